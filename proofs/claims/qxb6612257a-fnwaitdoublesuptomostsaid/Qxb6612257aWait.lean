import Derived.Test.Qxb6612257aIdx
import Derived.BigQuiet
namespace Go.Proofs.Qxb6612257a
open Go.RowKit
set_option linter.unusedVariables false
set_option linter.unusedSimpArgs false

/-- The pod in memory. -/
structure PodIn (w : World) (p : Nat) (pol : ByteArray) (a : Option Addr) (cap : Nat) (cs : List Cont) (since : Int) : Prop where
  lt : p < w.heap.size
  c4 : w.cell? ⟨p, 4, none⟩ = some (.string pol)
  c5 : w.cell? ⟨p, 5, none⟩ = some (.slice a cs.length cap)
  c9 : w.cell? ⟨p, 9, none⟩ = some (.int .u64 (since % 1000000000))
  c10 : w.cell? ⟨p, 10, none⟩ = some (.int .i64 (since / 1000000000))
  c11 : w.cell? ⟨p, 11, none⟩ = some (.pointer none)
  capm : cap ≤ maxLen
  len : cs.length ≤ cap
  conts : ∀ i, i < cs.length → ∃ b o v0 v1 v2 v3, a = some ⟨b, o, none⟩ ∧ b < w.heap.size ∧ w.cell? ⟨b, o + i * 4, none⟩ = some v0 ∧ w.cell? ⟨b, o + i * 4 + 1, none⟩ = some v1 ∧ w.cell? ⟨b, o + i * 4 + 2, none⟩ = some v2 ∧ w.cell? ⟨b, o + i * 4 + 3, none⟩ = some v3 ∧ IsCont w.heap.size w v0 v1 v2 v3 (cs.getD i .zero)
theorem PodIn.below {w w' : World} {p : Nat} {pol : ByteArray} {a : Option Addr} {cap : Nat} {cs : List Cont} {since : Int} (h : PodIn w p pol a cap cs since) (hb : Below w.heap.size w w') : PodIn w' p pol a cap cs since := by
  have hi : IsConts w.heap.size w (.slice a cs.length cap) cs := ⟨a, cap, rfl, h.len, h.capm, h.conts⟩
  obtain ⟨a', cap', e, hl, hm, hc⟩ := hi.keep hb hb.size
  obtain ⟨rfl, rfl⟩ : a = a' ∧ cap = cap' := by simpa using e
  exact ⟨Nat.lt_of_lt_of_le h.lt hb.size, by rw [hb.cell (p := ⟨p, 4, none⟩) h.lt]; exact h.c4, by rw [hb.cell (p := ⟨p, 5, none⟩) h.lt]; exact h.c5, by rw [hb.cell (p := ⟨p, 9, none⟩) h.lt]; exact h.c9, by rw [hb.cell (p := ⟨p, 10, none⟩) h.lt]; exact h.c10, by rw [hb.cell (p := ⟨p, 11, none⟩) h.lt]; exact h.c11, h.capm, h.len, hc⟩

theorem ret_int {k : IntKind} {a b : Int} (h : a = b) : Ending.returned (.int k a) = .returned (.int k b) := by rw [h]
/-- What 'wait' answers. -/
def waits (cs : List Cont) (least most el : Int) : Int := if alone cs then 0 else min (max el least) most

theorem eight_below {b p : Nat} {y0 y1 y2 y3 y4 z0 z1 z2 : Value} {W w1 : World} (hb : Below W.drew.heap.size W.drew w1) (hlt : b + 1 < W.heap.size) (hp : p < W.heap.size)
    (h0 : W.cell? ⟨b, 0, none⟩ = some y0) (h1 : W.cell? ⟨b, 1, none⟩ = some y1) (h2 : W.cell? ⟨b + 1, 0, none⟩ = some y2) (h3 : W.cell? ⟨b + 1, 1, none⟩ = some y3) (h4 : W.cell? ⟨b + 1, 2, none⟩ = some y4) (h5 : W.cell? ⟨p, 9, none⟩ = some z0) (h6 : W.cell? ⟨p, 10, none⟩ = some z1) (h7 : W.cell? ⟨p, 11, none⟩ = some z2) :
    w1.cell? ⟨b, 0, none⟩ = some y0 ∧ w1.cell? ⟨b, 1, none⟩ = some y1 ∧ w1.cell? ⟨b + 1, 0, none⟩ = some y2 ∧ w1.cell? ⟨b + 1, 1, none⟩ = some y3 ∧ w1.cell? ⟨b + 1, 2, none⟩ = some y4 ∧ w1.cell? ⟨p, 9, none⟩ = some z0 ∧ w1.cell? ⟨p, 10, none⟩ = some z1 ∧ w1.cell? ⟨p, 11, none⟩ = some z2 := by
  have hb : Below W.heap.size W w1 := (Below.refl _ _).drew.trans hb
  refine ⟨?_, ?_, ?_, ?_, ?_, ?_, ?_, ?_⟩
  · rw [hb.cell (p := ⟨b, 0, none⟩) (show b < _ by omega)]; exact h0
  · rw [hb.cell (p := ⟨b, 1, none⟩) (show b < _ by omega)]; exact h1
  · rw [hb.cell (p := ⟨b + 1, 0, none⟩) hlt]; exact h2
  · rw [hb.cell (p := ⟨b + 1, 1, none⟩) hlt]; exact h3
  · rw [hb.cell (p := ⟨b + 1, 2, none⟩) hlt]; exact h4
  · rw [hb.cell (p := ⟨p, 9, none⟩) hp]; exact h5
  · rw [hb.cell (p := ⟨p, 10, none⟩) hp]; exact h6
  · rw [hb.cell (p := ⟨p, 11, none⟩) hp]; exact h7

set_option maxRecDepth 100000 in
set_option maxHeartbeats 1000000 in
theorem wait_any (least most T since : Int) (p : Nat) (pol : ByteArray) (a : Option Addr) (cap : Nat) (cs : List Cont) (w : World) (hpod : PodIn w p pol a cap cs since)
    (hT0 : -9223372036854775808 ≤ T) (hT1 : T ≤ 9223372036854775807) (hU0 : -9223372036854775808 ≤ since) (hU1 : since ≤ 9223372036854775807) (h0 : 0 ≤ T - since) (h1 : T - since ≤ 9000000000000000000) (hne : since ≠ 0) :
    Calls Try.prog 19 #[.agg #[.int .i64 least, .int .i64 most], .pointer (some ⟨p, 0, none⟩), tns T] w fun e w' => e = .returned (.int .i64 (waits cs least most (T - since))) ∧ Below w.heap.size w w' := by
  unfold tns
  obtain ⟨W, hW⟩ : ∃ W, W = (w.alloc (.cells #[.int .i64 least, .int .i64 most] 76)).alloc (.cells #[.int .u64 (T % 1000000000), .int .i64 (T / 1000000000), .pointer none] 66) := ⟨_, rfl⟩
  have hbe : Below w.heap.size w W := by rw [hW]; exact below_alloc (below_alloc (Below.refl _ _) _) _
  have hp := hpod.below hbe
  have hb3 : Blk W w.heap.size #[.int .i64 least, .int .i64 most] 76 := by rw [hW]; exact (Blk.new _ _ _).alloc _
  have hb5 : Blk W (w.heap.size + 1) #[.int .u64 (T % 1000000000), .int .i64 (T / 1000000000), .pointer none] 66 := by rw [hW]; exact Blk.new' _ _ (by simp)
  have HW := hide hW
  have HP := hide hp
  have HB := hide hbe
  have H3 := hide hb3
  have H5 := hide hb5
  clear hpod hp hbe hb3 hb5 hW
  go_enter Try.func19, Try.ntmps19
  go_wp2_with fail
  rw [← HW.out]
  refine (sidecarIndex_any cs p 4 a cap W HP.out.capm HP.out.len HP.out.c5 HP.out.conts).mono ?_
  rintro e w1 ⟨hw1, hc⟩
  subst hw1
  obtain ⟨r, rfl, hr⟩ : ∃ r, e = .returned (.int .i64 r) ∧ ((r = -1 ∧ (cs.filter isBar).length ≠ 1) ∨ (∃ i : Nat, r = i ∧ i < cs.length ∧ isBar (cs.getD i .zero) = true ∧ (cs.filter isBar).length = 1)) := by
    rcases hc with ⟨hn1, rfl⟩ | ⟨hn1, i, hi, hbar, rfl⟩
    · exact ⟨_, rfl, .inl ⟨rfl, hn1⟩⟩
    · exact ⟨_, rfl, .inr ⟨i, rfl, hi, hbar, hn1⟩⟩
  have HR := hide hr
  clear hc hr HW
  have HZ : Hid (∀ W, Calls Try.prog 26 #[.agg #[.int .u64 (since % 1000000000), .int .i64 (since / 1000000000), .pointer none]] W fun e w' => e = .returned (.bool false) ∧ Below W.heap.size W w') := fun W => isZero_any since W hne
  have HSUB : Hid (∀ W, Calls Try.prog 27 #[.agg #[.int .u64 (T % 1000000000), .int .i64 (T / 1000000000), .pointer none], .agg #[.int .u64 (since % 1000000000), .int .i64 (since / 1000000000), .pointer none]] W fun e w' => e = .returned (.int .i64 (T - since)) ∧ Below W.heap.size W w') := fun W => sub_any T since W hT0 hT1 hU0 hU1 h0 h1
  generalize T % 1000000000 = t1 at *
  generalize T / 1000000000 = t2 at *
  go_wp2_with fail
  go_cut [33] (fun s33 wx => s33 = .bool (alone cs) ∧ Below w1.heap.size w1 wx)
  case first =>
    rcases HR.out with ⟨rfl, hn1⟩ | ⟨i, rfl, hi, hbar, hn1⟩
    · have HA := hide (alone_of_not hn1)
      clear hn1
      have hg : decide ((0 : Int) ≤ -1) = false := by decide
      go_quiet (fail)
      go_wp2
      go_meet
      exact ⟨by rw [HA.out], below_drewN (Below.refl _ _) _⟩
    · have HA := hide (alone_at hn1 hi hbar)
      obtain ⟨b, o', p1, ar, capr, p3, rfl, hb, c0, c1, c2, c3, hp, hq, hmr, hnr, hcr⟩ := cont_at (Nat.le_refl _) (Below.refl _ w1) HP.out.conts hi
      have g4 := HP.out.c4
      have g5 := HP.out.c5
      obtain ⟨co, hco⟩ : ∃ co, co = cs.getD i .zero := ⟨_, rfl⟩
      rw [← hco] at hp hq c0 c2 hbar HA hnr hcr
      obtain ⟨s, e1, hs⟩ : ∃ s, co.policy = some s ∧ (s.toList == [65, 108, 119, 97, 121, 115]) = true := by
        unfold isBar at hbar
        split at hbar
        · rename_i s t e1 e3
          rw [Bool.and_eq_true] at hbar
          exact ⟨s, e1, hbar.1⟩
        · cases hbar
      rw [e1] at hp
      obtain ⟨b1, f1, e2, hb1, cp⟩ := hp
      obtain rfl : p1 = some ⟨b1, f1, none⟩ := by simpa using e2
      have hOn : ∀ W, Below w1.heap.size w1 W → Calls Try.prog 25 #[.pointer (some ⟨b, o' + i * 4, none⟩), .bool false, .string pol, .int .i32 1] W (ExitPost co.rules W) := by
        intro W hW
        refine onExit_any co.rules pol s b (o' + i * 4) b1 f1 ar capr W hmr hnr (Nat.lt_of_lt_of_le hb hW.size) (Nat.lt_of_lt_of_le hb1 hW.size) ?_ ?_ hs ?_ ?_
        · rw [hW.cell (p := ⟨b, o' + i * 4 + 1, none⟩) hb]; exact c1
        · rw [hW.cell (p := ⟨b1, f1, none⟩) hb1]; exact cp
        · rw [hW.cell (p := ⟨b, o' + i * 4 + 2, none⟩) hb]; exact c2
        · intro j hj
          obtain ⟨b4, o4, pv, rfl, hb4, k0, k1, k2⟩ := hcr j hj
          exact ⟨b4, o4, pv, rfl, Nat.lt_of_lt_of_le hb4 hW.size, by rw [hW.cell (p := ⟨b4, o4 + j * 2, none⟩) hb4]; exact k0, by rw [hW.cell (p := ⟨b4, o4 + j * 2 + 1, none⟩) hb4]; exact k1, k2.keep hW hW.size⟩
      have HON := hide hOn
      have hl := HP.out.len
      have hm := HP.out.capm
      unfold maxLen at hm
      have hplt := HP.out.lt
      clear hco hn1 hOn hcr c0 c1 c2 c3 cp hq e2 e1 hs hbar hmr hnr
      have hii : (i : Int) < (cs.length : Int) := by omega
      have hg : decide ((0 : Int) ≤ (i : Int)) = true := by simp
      go_region_held3 (fun w' => w'.cell? ⟨p, 4, none⟩ = some (.string pol) ∧ w'.cell? ⟨p, 5, none⟩ = some (.slice (some ⟨b, o', none⟩) cs.length cap)) (simp [*, go_sem])
        (first
          | (go_at_call 25; refine (HON.out _ ?_).mono ?_; (exact (Below.refl _ _).drew); rintro e w5 ⟨s5, rfl, hs5, hb5⟩; have g4' : w5.cell? ⟨p, 4, none⟩ = some (.string pol) := (by rw [hb5.cell (p := ⟨p, 4, none⟩) (by simpa using hplt)]; simpa [go_sem] using g4); have g5' : w5.cell? ⟨p, 5, none⟩ = some (.slice (some ⟨b, o', none⟩) cs.length cap) := (by rw [hb5.cell (p := ⟨p, 5, none⟩) (by simpa using hplt)]; simpa [go_sem] using g5); have HB5 := hide hb5; have HS5 := hide hs5; clear hb5 hs5))
      go_wp2
      go_meet
      exact ⟨by rw [HA.out, ← HS5.out], (Below.refl _ _).drew.trans HB5.out⟩
  case rest =>
    clear HR
    obtain ⟨rfl, hbc⟩ := hcut
    have hbe := HB.out.trans (hbc.mono HB.out.size)
    have hp := HP.out.below hbc
    have h3 := H3.out.below hbc H3.out.lt
    have h5 := H5.out.below hbc H5.out.lt
    have HBE := hide hbe
    have k0 := h3.cell 0
    have k1 := h3.cell 1
    have k2 := h5.cell 0
    have k3 := h5.cell 1
    have k4 := h5.cell 2
    simp at k0 k1 k2 k3 k4
    have q9 := hp.c9
    have q10 := hp.c10
    have q11 := hp.c11
    have hplt := hp.lt
    have hl5 := h5.lt
    clear HB HP H3 H5 hbc hbe hp h3 h5
    cases hal : alone cs with
    | true =>
      have hv : waits cs least most (T - since) = 0 := by simp [waits, hal]
      have HV := hide hv
      clear hv
      go_wp2
      go_ret
      exact ⟨by rw [HV.out]; rfl, HBE.out⟩
    | false =>
      have hv : waits cs least most (T - since) = min (max (T - since) least) most := by simp [waits, hal]
      have HV := hide hv
      clear hv
      generalize since % 1000000000 = u1 at *
      generalize since / 1000000000 = u2 at *
      go_wp2_with fail
      refine (HZ.out _).mono ?_
      rintro e w5 ⟨rfl, hb5⟩
      have hlw5 := hb5.size
      rw [← hb5.cell (p := ⟨w.heap.size, 0, none⟩) (show w.heap.size < _ by omega)] at k0
      rw [← hb5.cell (p := ⟨w.heap.size, 1, none⟩) (show w.heap.size < _ by omega)] at k1
      rw [← hb5.cell (p := ⟨w.heap.size + 1, 0, none⟩) hl5] at k2
      rw [← hb5.cell (p := ⟨w.heap.size + 1, 1, none⟩) hl5] at k3
      rw [← hb5.cell (p := ⟨w.heap.size + 1, 2, none⟩) hl5] at k4
      rw [← hb5.cell (p := ⟨p, 9, none⟩) hplt] at q9
      rw [← hb5.cell (p := ⟨p, 10, none⟩) hplt] at q10
      rw [← hb5.cell (p := ⟨p, 11, none⟩) hplt] at q11
      have HBE5 := hide (HBE.out.trans (hb5.mono HBE.out.size))
      clear hb5 HZ
      go_wp2_with fail
      have hl4 : w.heap.size < w5.heap.size := by omega
      have hl6 : w.heap.size + 1 < w5.heap.size := by omega
      have hp5 : p < w5.heap.size := by omega
      go_region_held3 (fun w' => w'.cell? ⟨w.heap.size, 0, none⟩ = some (.int .i64 least) ∧ w'.cell? ⟨w.heap.size, 1, none⟩ = some (.int .i64 most) ∧ w'.cell? ⟨w.heap.size + 1, 0, none⟩ = some (.int .u64 t1) ∧ w'.cell? ⟨w.heap.size + 1, 1, none⟩ = some (.int .i64 t2) ∧ w'.cell? ⟨w.heap.size + 1, 2, none⟩ = some (.pointer none) ∧ w'.cell? ⟨p, 9, none⟩ = some (.int .u64 u1) ∧ w'.cell? ⟨p, 10, none⟩ = some (.int .i64 u2) ∧ w'.cell? ⟨p, 11, none⟩ = some (.pointer none)) (simp [*, go_sem])
        (first
          | (go_at_call 27; refine (HSUB.out _).mono ?_; rintro e w6 ⟨rfl, hb6⟩; obtain ⟨x0, x1, x2, x3, x4, x5, x6, x7⟩ := eight_below (b := w.heap.size) (p := p) hb6 (by simpa using hl6) (by simpa using hp5) k0 k1 k2 k3 k4 q9 q10 q11; have HB6 := hide hb6; clear hb6))
      go_wp2
      all_goals
        go_ret
        refine ⟨?_, HBE5.out.drew.trans (HB6.out.mono HBE5.out.size)⟩
        rw [HV.out]
        exact ret_int (by omega)
end Go.Proofs.Qxb6612257a
