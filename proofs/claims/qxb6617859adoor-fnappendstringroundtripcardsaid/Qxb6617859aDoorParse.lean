/- The walk of zzParseDecimal, at a numeral. -/
import Derived.Test.Qxb6617859aDoorCanAny
import Derived.Test.Qxb6617859aDoorNum
namespace Go.Proofs.Qxb6617859aDoor.Can
open Go.RowKit
set_option linter.unusedVariables false

theorem hid {p : Prop} (h : p) : Hid p := h

set_option maxHeartbeats 1600000 in
theorem parse_any (b off n c s : Nat) (neg : Bool) (D : List Int) (w : World) (hn : n = s + D.length) (hm : n ≤ 1048577) (hD : D.all dig = true) (hne : 0 < D.length) (hval : val D ≤ 18446744073709551615)
    (hcase : (neg = true ∧ s = 1 ∧ w.cell? ⟨b, off, none⟩ = some (.int .u8 45)) ∨ (neg = false ∧ s = 0))
    (hc : ∀ k, k < D.length → w.cell? ⟨b, off + (s + k), none⟩ = some (.int .u8 (D.getD k 0))) :
    Calls Tryd.prog 10 #[.slice (some ⟨b, off, none⟩) n c] w fun e w' => e = .returned (.tuple #[.bool neg, .int .u64 (val D), .bool true]) ∧ w' = w := by
  have R : ∀ j : Nat, s ≤ j → j < n → ∃ d : Int, w.cell? ⟨b, off + j, none⟩ = some (.int .u8 d) ∧ 48 ≤ d ∧ d ≤ 57 ∧ val (D.take (j + 1 - s)) = val (D.take (j - s)) * 10 + (d - 48) := by
    intro j hsj hj
    have hlt : j - s < D.length := by omega
    refine ⟨D[j - s], ?_, ?_⟩
    · have := hc (j - s) hlt
      rw [show s + (j - s) = j from by omega, List.getD_eq_getElem?_getD, List.getElem?_eq_getElem hlt] at this
      exact this
    · have := List.all_eq_true.1 hD D[j - s] (List.getElem_mem hlt)
      simp only [dig, Bool.and_eq_true, decide_eq_true_eq] at this
      refine ⟨this.1, this.2, ?_⟩
      rw [show j + 1 - s = (j - s) + 1 from by omega]
      exact val_take_succ D (j - s) hlt
  have HR := hid R
  have HV := hid hval
  have HD := hid hD
  have HN := hid hn
  have hn1 : decide ((0 : Int) < (n : Int)) = true := decide_eq_true (by omega)
  have hsn : s < n := by omega
  obtain ⟨z, hc0, hd0, hd0', -⟩ := R s (Nat.le_refl _) hsn
  have hz0 : (z == 45) = false := beq_eq_false_iff_ne.2 (by omega)
  clear R hc hval hD hn hd0 hd0'
  rcases hcase with ⟨hng, hs, hsign⟩ | ⟨hng, hs⟩
  case' inl => have h1n : decide ((n : Int) ≤ 1) = false := decide_eq_false (by omega)
  case' inl => clear hc0
  case' inr => have hc00 : w.cell? ⟨b, off, none⟩ = some (.int .u8 z) := by simpa [hs] using hc0
  case' inr => clear hc0
  all_goals
    have HS := hid hs
    have HG := hid hng
    have hs1 : s ≤ 1 := by omega
    have hne0 : ¬ n = 0 := by omega
    clear hs hng
    go_enter Tryd.func10, Tryd.ntmps10
    go_wp2
  all_goals
    go_loop [6, 7] (fun i mg => ∃ j : Nat, s ≤ j ∧ j ≤ n ∧ i = .int .i64 j ∧ mg = .int .u64 (val (D.take (j - s)))) (fun i _ => n - (intOf i).toNat)
    case atStart => exact ⟨s, Nat.le_refl _, by omega, by rw [HS.out]; rfl, by simp [val]⟩
    case round =>
      obtain ⟨j, hsj, hj, rfl, rfl⟩ := hrel
      by_cases hlt : j < n
      · obtain ⟨d, hcd, hd1, hd2, hst⟩ := HR.out j hsj hlt
        have hb1 := val_take_le D HD.out (j - s)
        have hb2 := val_take_le D HD.out (j + 1 - s)
        have hv := HV.out
        obtain ⟨m, HM⟩ : ∃ m, Hid (m = val (D.take (j - s))) := ⟨_, rfl⟩
        rw [← HM.out] at hst hb1
        rw [hst] at hb2
        have HST := hid hst
        have hm0 : 0 ≤ m := hb1.1
        have hm1 : m * 10 + (d - 48) ≤ 18446744073709551615 := by omega
        have hm2 : m ≤ 1844674407370955161 := by omega
        have bd : dig d = true := by simp [dig, hd1, hd2]
        have g1 : decide ((1844674407370955161 : Int) < m) = false := decide_eq_false (by omega)
        clear hst hb1 hb2 hv
        rw [← HM.out]
        by_cases ht : m = 1844674407370955161
        · have g2 : (m == 1844674407370955161) = true := beq_iff_eq.2 ht
          have g3 : decide ((5 : Int) < d - 48) = false := decide_eq_false (by omega)
          have HT := hid ht
          clear ht
          go_wp2_with (go_at_call 15; refine (dig_any _ _).mono ?_; rintro e w' ⟨rfl, rfl⟩)
          go_round
          case rel => exact ⟨j + 1, by omega, by omega, by go_num, by rw [HST.out]⟩
          case measure => simp [intOf]; omega
        · have g2 : (m == 1844674407370955161) = false := beq_eq_false_iff_ne.2 ht
          have HT := hid ht
          clear ht
          go_wp2_with (go_at_call 15; refine (dig_any _ _).mono ?_; rintro e w' ⟨rfl, rfl⟩)
          go_round
          case rel => exact ⟨j + 1, by omega, by omega, by go_num, by rw [HST.out]⟩
          case measure => simp [intOf]; omega
      · have hjn : j = n := by omega
        have HE : Hid (val (D.take (j - s)) = val D) := by
          show _ = _
          rw [List.take_of_length_le (by have := HN.out; omega)]
        rw [HE.out]
        go_wp2
        go_ret3
        rw [HG.out]
        exact ⟨rfl, rfl⟩

/-- The numeral of i, as numbers, reads back as i. -/
theorem parse_itoa (ad : Option Addr) (n c : Nat) (i : Int) (w : World) (h0 : -9223372036854775808 ≤ i) (h1 : i ≤ 9223372036854775807) (hv : View w ad n (nums (Lib.itoa i))) (hm : n ≤ 1048577) :
    Calls Tryd.prog 10 #[.slice ad n c] w fun e w' => e = .returned (.tuple #[.bool (decide (i < 0)), .int .u64 (i.natAbs : Nat), .bool true]) ∧ w' = w := by
  have hpos : 0 < n := by
    rw [← hv.1]
    unfold Lib.itoa
    split
    · simp [nums]
    · exact List.length_pos_iff.2 (by simpa [nums] using dec_ne _)
  rcases hv.2 with hz | ⟨b, off, rfl, hb, hc⟩
  · omega
  by_cases hneg : i < 0
  · have e : Lib.itoa i = 45 :: Lib.decDigits i.natAbs := by simp [Lib.itoa, hneg]
    rw [decide_eq_true hneg]
    have hl := hv.1
    rw [e] at hl hc
    have hcons : nums (45 :: Lib.decDigits i.natAbs) = 45 :: nums (Lib.decDigits i.natAbs) := rfl
    rw [hcons] at hl hc
    rw [← dec_val i.natAbs]
    refine parse_any b off n c 1 true _ w (by rw [← hl]; simp; omega) hm (dec_all _) (List.length_pos_iff.2 (by simpa [nums] using dec_ne _)) (by rw [dec_val]; omega) (.inl ⟨rfl, rfl, by simpa using hc 0 hpos⟩) ?_
    intro k hk
    rw [hc (1 + k) (by rw [← hl]; simp; omega), Nat.add_comm 1 k]
    simp
  · have e : Lib.itoa i = Lib.decDigits i.natAbs := by
      simp only [Lib.itoa, hneg, if_false]
      congr 1
      omega
    rw [decide_eq_false hneg]
    have hl := hv.1
    rw [e] at hl hc
    rw [← dec_val i.natAbs]
    refine parse_any b off n c 0 false _ w (by rw [← hl]; simp) hm (dec_all _) (List.length_pos_iff.2 (by simpa [nums] using dec_ne _)) (by rw [dec_val]; omega) (.inr ⟨rfl, rfl⟩) ?_
    intro k hk
    rw [Nat.zero_add]
    exact hc k (by rw [← hl]; exact hk)

end Go.Proofs.Qxb6617859aDoor.Can
