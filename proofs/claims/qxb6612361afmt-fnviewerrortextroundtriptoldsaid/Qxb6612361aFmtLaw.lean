/-
  THE LAW's OWN WALK (function 3) OVER A TEXT THAT IS KNOWN, AND THE PLAIN FACTS OF THE DECIMAL NUMERAL.
-/
import Derived.Test.Qxb6612361aFmtCall
import Derived.Lib.Itoa
import Derived.Lib.ItoaNum
import Derived.Lib.ItoaLen
import Derived.Lib.ItoaMem
import Derived.Lib.Strings
import Derived.Laws.BitsAllLaws
namespace Go.Proofs.Qxb6612361aFmt
open Go.RowKit
set_option linter.unusedVariables false
set_option linter.unusedSimpArgs false

/-- The number that a row of digits is. -/
def val (l : List UInt8) : Nat := l.foldl (fun a d => a * 10 + (d.toNat - 48)) 0
theorem val_snoc (l : List UInt8) (d : UInt8) : val (l ++ [d]) = val l * 10 + (d.toNat - 48) := by simp [val]
theorem val_take {D : List UInt8} {k : Nat} (h : k < D.length) : val (D.take (k + 1)) = val (D.take k) * 10 + (D[k].toNat - 48) := by
  rw [List.take_succ_eq_append_getElem h, val_snoc]
theorem val_take_le (D : List UInt8) : ∀ k, val (D.take k) ≤ val D := by
  have step : ∀ k, val (D.take k) ≤ val (D.take (k + 1)) := fun k => by
    by_cases h : k < D.length
    · rw [val_take h]; omega
    · rw [List.take_of_length_le (by omega), List.take_of_length_le (by omega)]; exact Nat.le_refl _
  have up : ∀ j k, val (D.take k) ≤ val (D.take (k + j)) := by
    intro j
    induction j with
    | zero => intro k; exact Nat.le_refl _
    | succ j ih => intro k; exact Nat.le_trans (ih k) (step (k + j))
  intro k
  have := up D.length k
  rwa [List.take_of_length_le (l := D) (i := k + D.length) (by omega)] at this
def IsDig (d : UInt8) : Prop := 48 ≤ d.toNat ∧ d.toNat ≤ 57
theorem digit_ofNat (r : Nat) (h : r < 10) : (UInt8.ofNat (48 + r)).toNat = 48 + r := by
  simp [UInt8.toNat_ofNat']; omega
theorem dec_dig (u : Nat) : ∀ d ∈ Lib.decDigits u, IsDig d := by
  induction u using Nat.strongRecOn with
  | _ u ih =>
    intro d hd
    rw [Lib.decDigits] at hd
    by_cases h : u < 10
    · rw [dif_pos h] at hd
      rw [List.mem_singleton.1 hd]
      unfold IsDig
      have := digit_ofNat u h
      omega
    · rw [dif_neg h] at hd
      rcases List.mem_append.1 hd with hd | hd
      · exact ih (u / 10) (by omega) d hd
      · rw [List.mem_singleton.1 hd]
        unfold IsDig
        have := digit_ofNat (u % 10) (by omega)
        omega
theorem dec_val (u : Nat) : val (Lib.decDigits u) = u := by
  induction u using Nat.strongRecOn with
  | _ u ih =>
    rw [Lib.decDigits]
    by_cases h : u < 10
    · rw [dif_pos h]
      have := digit_ofNat u h
      simp only [val, List.foldl]
      omega
    · rw [dif_neg h, val_snoc, ih (u / 10) (by omega)]
      have := digit_ofNat (u % 10) (by omega)
      omega
theorem nDigits_le_of_lt : ∀ (k u : Nat), u < 10 ^ (k + 1) → Lib.nDigits u ≤ k + 1
  | 0, u, h => by rw [Lib.nDigits_small (by simpa using h)]; exact Nat.le_refl _
  | k + 1, u, h => by
    by_cases h1 : u < 10
    · rw [Lib.nDigits_small h1]; omega
    · rw [Lib.nDigits_big h1]
      have := nDigits_le_of_lt k (u / 10) (by rw [Nat.pow_succ] at h; omega)
      omega
theorem dec_len (u : Nat) (h : u ≤ 9223372036854775808) : (Lib.decDigits u).length ≤ 19 ∧ 1 ≤ (Lib.decDigits u).length := by
  rw [Lib.decDigits_length]
  exact ⟨nDigits_le_of_lt 18 u (by omega), Lib.nDigits_pos u⟩

/-- What the law's walk is told of the text. -/
structure Txt (S : ByteArray) (p : Nat) (D : List UInt8) (msg : ByteArray) : Prop where
  size : S.size = p + D.length + 2 + msg.size
  dlen : D.length ≤ 19
  dpos : 1 ≤ D.length
  pre : (S.extract 0 8).toList = [118, 105, 101, 119, 32, 97, 116, 32]
  dig : ∀ k (hk : k < D.length) (h : p + k < S.size), S[p + k] = D[k]
  isdig : ∀ k (hk : k < D.length), IsDig D[k]
  colon : ∀ h : p + D.length < S.size, S[p + D.length] = 58
  space : ∀ h : p + D.length + 1 < S.size, S[p + D.length + 1] = 32
  rest : (S.extract (p + D.length + 2) S.size).toList = msg.toList

set_option maxHeartbeats 8000000 in
set_option maxRecDepth 100000 in
theorem law_pos (t : Int) (msg S : ByteArray) (D : List UInt8) (w : World) (hm : msg.size ≤ 1048576) (h : Txt S 8 D msg) (hval : val D = t.toNat) (ht0 : 0 ≤ t) (ht1 : t ≤ 9223372036854775807)
    (hv : Calls Tryf.prog 5 #[.int .i64 t, .string msg] w fun e w' => e = .returned (.string S) ∧ Below w.heap.size w w') :
    Calls Tryf.prog 3 #[.int .i64 t, .string msg] w fun e w' => e = .returned (.bool true) ∧ Below w.heap.size w w' := by
  have HB := hide (bound4 t msg (by simp [maxLen]; omega) w)
  have HV := hide hv
  have HT := hide h
  have HSZ := hide h.size
  have hs10 : 8 + D.length + 2 ≤ S.size := by have := h.size; omega
  have hsbig : S.size ≤ 2097152 := by have := h.size; have := h.dlen; omega
  have hdl := h.dlen
  have hdp := h.dpos
  have hpre := h.pre
  have h8 : 8 < S.size := by omega
  obtain ⟨d8, hd8⟩ : ∃ d8, S[8].toNat = d8 := ⟨_, rfl⟩
  have hn45 : ((d8 : Int) == 45) = false := by
    have e : S[8] = D[0] := h.dig 0 (by omega) h8
    have := h.isdig 0 (by omega)
    unfold IsDig at this
    rw [← e, hd8] at this
    exact beq_false_of_ne (by omega)
  have hVAL := hide hval
  clear h hv hval
  go_enter Tryf.func3, Tryf.ntmps3
  go_wp2_with (first
    | (go_at_call 4; refine HB.out.mono ?_; rintro e wz ⟨rfl | rfl, rfl⟩)
    | (go_at_call 5; refine HV.out.mono ?_; rintro e W5 ⟨rfl, hb5⟩; have HB5 := hide hb5; clear hb5))
  · go_loopw [6, 9] (fun i m wi => ∃ q : Nat, 8 ≤ q ∧ q ≤ 8 + D.length ∧ i = .int .i64 (q : Int) ∧ m = .int .u64 ((val (D.take (q - 8)) : Nat) : Int) ∧ wi = W5) (fun i _ _ => 8 + D.length - (intOf i).toNat)
    case atStart => exact ⟨8, Nat.le_refl _, by omega, rfl, by simp [val], rfl⟩
    case round =>
      obtain ⟨q, hq8, hq, rfl, rfl, rfl⟩ := hrel
      by_cases hlt : q < 8 + D.length
      · have hqS : q < S.size := by omega
        obtain ⟨mv, hmv⟩ : ∃ mv, mv = val (D.take (q - 8)) := ⟨_, rfl⟩
        obtain ⟨dd, hdd⟩ : ∃ dd, S[q].toNat = dd := ⟨_, rfl⟩
        have hk : q - 8 < D.length := by omega
        have hS : S[q] = D[q - 8] := by
          have := HT.out.dig (q - 8) hk (by omega)
          simpa [show 8 + (q - 8) = q by omega] using this
        have hdig := HT.out.isdig (q - 8) hk
        rw [← hS] at hdig
        unfold IsDig at hdig
        rw [hdd] at hdig
        obtain ⟨hd1, hd2⟩ := hdig
        have hnext : val (D.take (q + 1 - 8)) = mv * 10 + (dd - 48) := by
          rw [show q + 1 - 8 = (q - 8) + 1 by omega, val_take hk, ← hS, hdd, hmv]
        have hle : mv * 10 + (dd - 48) ≤ t.toNat := by
          rw [← hnext, ← hVAL.out]; exact val_take_le D _
        rw [← hmv]
        have HNX := hide hnext
        clear hnext hmv hS
        go_wp2
        refine ⟨⟨q + 1, by omega, by omega, by simp, ?_, trivial⟩, by simp [intOf]; omega⟩
        rw [HNX.out]
        congr 1
        omega
      · have hqe : q = 8 + D.length := by omega
        have hqS : q < S.size := by omega
        have hqS1 : q + 1 < S.size := by omega
        have hcol : S[q].toNat = 58 := by
          have := HT.out.colon (by omega)
          simp only [← hqe] at this
          rw [this]; rfl
        have hspc : S[q + 1].toNat = 32 := by
          have := HT.out.space (by omega)
          simp only [← hqe] at this
          rw [this]; rfl
        have hmv : ((val (D.take (q - 8)) : Nat) : Int) = t := by
          rw [List.take_of_length_le (by omega), hVAL.out]; omega
        have hrest : (S.extract (q + 2) S.size).toList = msg.toList := by
          have := HT.out.rest
          rwa [← hqe] at this
        rw [hmv]
        have hq2 : q + 2 ≤ S.size := by omega
        have hq3 : 8 < q := by omega
        clear hmv hqe hlt hq
        go_wp2
        go_ret
        exact ⟨rfl, HB5.out⟩
  · go_ret
    exact ⟨rfl, Below.refl _ _⟩
theorem neg_bits0 (u : Nat) (h1 : 1 ≤ u) (h2 : u ≤ 9223372036854775808) : bits .xor .u64 18446744073709551615 (u : Int) = 18446744073709551615 - (u : Int) := by
  show IntKind.u64.wrap ((BitVec.ofInt 64 18446744073709551615 ^^^ BitVec.ofInt 64 (u : Int)).toNat : Int) = _
  have h1 : BitVec.ofInt 64 18446744073709551615 = BitVec.allOnes 64 := by decide
  rw [h1, BitVec.allOnes_xor, BitVec.toNat_not, ofInt_u64 u (by omega)]
  simp [IntKind.wrap, IntKind.bits, IntKind.signed]
  omega
theorem neg_conv (u : Nat) (h1 : 1 ≤ u) (h2 : u ≤ 9223372036854775808) : wrap64 (18446744073709551616 - (u : Int)) = -(u : Int) := by
  simp only [wrap64]
  omega

set_option maxHeartbeats 8000000 in
set_option maxRecDepth 100000 in
theorem law_neg (t : Int) (msg S : ByteArray) (D : List UInt8) (w : World) (hm : msg.size ≤ 1048576) (u : Nat) (h : Txt S 9 D msg) (hmin : ∀ h : 8 < S.size, S[8] = 45) (hval : val D = u) (htu : t = -(u : Int)) (hu1 : 1 ≤ u) (hu2 : u ≤ 9223372036854775808)
    (hv : Calls Tryf.prog 5 #[.int .i64 t, .string msg] w fun e w' => e = .returned (.string S) ∧ Below w.heap.size w w') :
    Calls Tryf.prog 3 #[.int .i64 t, .string msg] w fun e w' => e = .returned (.bool true) ∧ Below w.heap.size w w' := by
  have HB := hide (bound4 t msg (by simp [maxLen]; omega) w)
  have HV := hide hv
  have HT := hide h
  have HSZ := hide h.size
  have hs10 : 9 + D.length + 2 ≤ S.size := by have := h.size; omega
  have hsbig : S.size ≤ 2097152 := by have := h.size; have := h.dlen; omega
  have hdl := h.dlen
  have hdp := h.dpos
  have hpre := h.pre
  have h8 : 8 < S.size := by omega
  have hd8 : S[8].toNat = 45 := by rw [hmin h8]; rfl
  clear hmin
  have HTU := hide htu
  subst htu
  have hVAL := hide hval
  clear h hv hval HTU
  go_enter Tryf.func3, Tryf.ntmps3
  go_wp2_with (first
    | (go_at_call 4; refine HB.out.mono ?_; rintro e wz ⟨rfl | rfl, rfl⟩)
    | (go_at_call 5; refine HV.out.mono ?_; rintro e W5 ⟨rfl, hb5⟩; have HB5 := hide hb5; clear hb5))
  · go_loopw [6, 9] (fun i m wi => ∃ q : Nat, 9 ≤ q ∧ q ≤ 9 + D.length ∧ i = .int .i64 (q : Int) ∧ m = .int .u64 ((val (D.take (q - 9)) : Nat) : Int) ∧ wi = W5) (fun i _ _ => 9 + D.length - (intOf i).toNat)
    case atStart => exact ⟨9, Nat.le_refl _, by omega, rfl, by simp [val], rfl⟩
    case round =>
      obtain ⟨q, hq8, hq, rfl, rfl, rfl⟩ := hrel
      by_cases hlt : q < 9 + D.length
      · have hqS : q < S.size := by omega
        obtain ⟨mv, hmv⟩ : ∃ mv, mv = val (D.take (q - 9)) := ⟨_, rfl⟩
        obtain ⟨dd, hdd⟩ : ∃ dd, S[q].toNat = dd := ⟨_, rfl⟩
        have hk : q - 9 < D.length := by omega
        have hS : S[q] = D[q - 9] := by
          have := HT.out.dig (q - 9) hk (by omega)
          simpa [show 9 + (q - 9) = q by omega] using this
        have hdig := HT.out.isdig (q - 9) hk
        rw [← hS] at hdig
        unfold IsDig at hdig
        rw [hdd] at hdig
        obtain ⟨hd1, hd2⟩ := hdig
        have hnext : val (D.take (q + 1 - 9)) = mv * 10 + (dd - 48) := by
          rw [show q + 1 - 9 = (q - 9) + 1 by omega, val_take hk, ← hS, hdd, hmv]
        have hle : mv * 10 + (dd - 48) ≤ u := by
          rw [← hnext, ← hVAL.out]; exact val_take_le D _
        rw [← hmv]
        have HNX := hide hnext
        clear hnext hmv hS
        go_wp2
        refine ⟨⟨q + 1, by omega, by omega, by simp, ?_, trivial⟩, by simp [intOf]; omega⟩
        rw [HNX.out]
        congr 1
        omega
      · have hqe : q = 9 + D.length := by omega
        have hqS : q < S.size := by omega
        have hqS1 : q + 1 < S.size := by omega
        have hcol : S[q].toNat = 58 := by
          have := HT.out.colon (by omega)
          simp only [← hqe] at this
          rw [this]; rfl
        have hspc : S[q + 1].toNat = 32 := by
          have := HT.out.space (by omega)
          simp only [← hqe] at this
          rw [this]; rfl
        have hmv : ((val (D.take (q - 9)) : Nat) : Int) = (u : Int) := by
          rw [List.take_of_length_le (by omega), hVAL.out]
        have hrest : (S.extract (q + 2) S.size).toList = msg.toList := by
          have := HT.out.rest
          rwa [← hqe] at this
        rw [hmv]
        have hq2 : q + 2 ≤ S.size := by omega
        have hq3 : 9 < q := by omega
        clear hmv hqe hlt hq
        have hsg : IntKind.u64.signed = false := rfl
        have hmx : IntKind.u64.max = 18446744073709551615 := by decide
        have hneg := neg_bits0 u hu1 hu2
        have hconv := neg_conv u hu1 hu2
        have hnn : (18446744073709551615 : Int) - (u : Int) + 1 = 18446744073709551616 - (u : Int) := by omega
        go_wp2
        go_ret
        exact ⟨rfl, HB5.out⟩
  · go_ret
    exact ⟨rfl, Below.refl _ _⟩
theorem size_list (S : ByteArray) : S.size = S.data.toList.length := by simp
theorem get_list {S : ByteArray} {l : List UInt8} (e : S.data.toList = l) {k : Nat} (hk : k < S.size) : l[k]? = some S[k] := by
  subst e
  have hk' : k < S.data.size := hk
  rw [Array.getElem?_toList, Array.getElem?_eq_getElem hk']
  rfl
theorem extract_list (S : ByteArray) (i j : Nat) (hj : j ≤ S.size) : (S.extract i j).toList = (S.data.toList.drop i).take (j - i) := by
  rw [ByteArray.toList_eq, ByteArray.data_extract, Array.toList_extract, List.extract_eq_take_drop]

theorem txt_of {S msg : ByteArray} {P D : List UInt8} (hP : 8 ≤ P.length) (hpre : P.take 8 = [118, 105, 101, 119, 32, 97, 116, 32]) (e : S.data.toList = P ++ (D ++ (58 :: 32 :: msg.data.toList)))
    (h1 : D.length ≤ 19) (h2 : 1 ≤ D.length) (h3 : ∀ d ∈ D, IsDig d) : Txt S P.length D msg := by
  have hsz : S.size = P.length + D.length + 2 + msg.size := by
    rw [size_list S, size_list msg, e]; simp; omega
  refine ⟨hsz, h1, h2, ?_, ?_, fun k hk => h3 _ (List.getElem_mem hk), ?_, ?_, ?_⟩
  · rw [extract_list S 0 8 (by omega), e, List.drop_zero, List.take_append_of_le_length (by omega)]; exact hpre
  · intro k hk h
    have := get_list e h
    rw [List.getElem?_append_right (by omega), List.getElem?_append_left (by omega)] at this
    have e2 : P.length + k - P.length = k := by omega
    rw [e2, List.getElem?_eq_getElem hk] at this
    exact (Option.some.inj this).symm
  · intro h
    have := get_list e h
    rw [List.getElem?_append_right (by omega), List.getElem?_append_right (by omega)] at this
    have e2 : P.length + D.length - P.length - D.length = 0 := by omega
    rw [e2] at this
    exact (Option.some.inj this).symm
  · intro h
    have := get_list e h
    rw [List.getElem?_append_right (by omega), List.getElem?_append_right (by omega)] at this
    have e2 : P.length + D.length + 1 - P.length - D.length = 1 := by omega
    rw [e2] at this
    exact (Option.some.inj this).symm
  · rw [extract_list S _ _ (Nat.le_refl _), e, ByteArray.toList_eq]
    have e2 : P ++ (D ++ (58 :: 32 :: msg.data.toList)) = (P ++ D ++ [58, 32]) ++ msg.data.toList := by simp
    rw [e2, List.drop_left' (by simp; omega), List.take_of_length_le (by rw [hsz, size_list msg]; omega)]

/-- The text, whatever the time: the law answers true. -/
theorem law_any (t : Int) (msg S : ByteArray) (w : World) (hm : msg.size ≤ 1048576) (h0 : -9223372036854775808 ≤ t) (h1 : t ≤ 9223372036854775807)
    (e : S.data.toList = [118, 105, 101, 119, 32, 97, 116, 32] ++ (Lib.itoa t ++ (58 :: 32 :: msg.data.toList)))
    (hv : Calls Tryf.prog 5 #[.int .i64 t, .string msg] w fun e w' => e = .returned (.string S) ∧ Below w.heap.size w w') :
    Calls Tryf.prog 3 #[.int .i64 t, .string msg] w fun e w' => e = .returned (.bool true) ∧ Below w.heap.size w w' := by
  by_cases ht : t < 0
  · obtain ⟨u, rfl⟩ : ∃ u : Nat, t = -(u : Int) := ⟨t.natAbs, by omega⟩
    rw [Lib.itoa_neg u (by omega)] at e
    have e' : S.data.toList = [118, 105, 101, 119, 32, 97, 116, 32, 45] ++ (Lib.decDigits u ++ (58 :: 32 :: msg.data.toList)) := by rw [e]; rfl
    have hd := dec_len u (by omega)
    have hT : Txt S 9 (Lib.decDigits u) msg := txt_of (P := [118, 105, 101, 119, 32, 97, 116, 32, 45]) (by decide) rfl e' hd.1 hd.2 (dec_dig u)
    refine law_neg (-(u : Int)) msg S (Lib.decDigits u) w hm u hT (fun h => ?_) (dec_val u) rfl (by omega) (by omega) hv
    have := get_list e' h
    exact (Option.some.inj this).symm
  · obtain ⟨u, rfl⟩ : ∃ u : Nat, t = (u : Int) := ⟨t.toNat, by omega⟩
    rw [Lib.itoa_nonneg] at e
    have hd := dec_len u (by omega)
    have hT : Txt S 8 (Lib.decDigits u) msg := txt_of (P := [118, 105, 101, 119, 32, 97, 116, 32]) (by decide) rfl e hd.1 hd.2 (dec_dig u)
    exact law_pos (u : Int) msg S (Lib.decDigits u) w hm hT (by rw [dec_val u]; omega) (by omega) h1 hv

set_option maxHeartbeats 1600000 in
theorem law_big (t : Int) (msg : ByteArray) (w : World) (hn : msg.size ≤ maxLen) (hm : 1048576 < msg.size) :
    Calls Tryf.prog 3 #[.int .i64 t, .string msg] w fun e w' => e = .returned (.bool true) ∧ Below w.heap.size w w' := by
  have HB := hide (bound4 t msg hn w)
  simp only [maxLen] at hn
  go_enter Tryf.func3, Tryf.ntmps3
  go_wp2_with (go_at_call 4; refine HB.out.mono ?_; rintro e wz ⟨rfl | rfl, rfl⟩)
  all_goals first | omega | (go_ret; exact ⟨rfl, Below.refl _ _⟩)

end Go.Proofs.Qxb6612361aFmt
