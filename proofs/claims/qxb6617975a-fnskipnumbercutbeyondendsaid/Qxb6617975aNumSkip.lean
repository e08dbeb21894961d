/- The walk of skipNumber. -/
import Derived.Test.Qxb6617975aNumLong
import Derived.Deep.Cut
namespace Go.Proofs.Qxb6617975a.Num
open Go.RowKit Go.Proofs.Qxb6617975a.Col
set_option linter.unusedVariables false

/-- A place at or behind the end. -/
theorem skip_big (ad : Option Addr) (n c : Nat) (i : Int) (w : World) (hi : (n : Int) ≤ i) :
    Calls Try.prog 16 #[.slice ad n c, .int .i64 i] w fun e w' => e = .returned (.tuple #[.int .i64 i, .bool false]) ∧ w' = w := by
  have h1 : decide (i < (n : Int)) = false := decide_eq_false (by omega)
  go_enter Try.func16, Try.ntmps16
  go_wp2
  go_ret2
  exact ⟨rfl, rfl⟩

theorem now {p : Prop} (h : p) : Hid p := h

set_option maxHeartbeats 64000000 in
theorem skip_some (b off n c : Nat) (zs : List Int) (i : Nat) (w : World) (hv : View w (some ⟨b, off, none⟩) n zs) (hm : n ≤ 1048577) (hi : i < n) :
    Calls Try.prog 16 #[.slice (some ⟨b, off, none⟩) n c, .int .i64 (i : Int)] w fun e w' => e = .returned (.tuple #[.int .i64 ((A 0 zs i).1 : Int), .bool (A 0 zs i).2]) ∧ w' = w := by
  have HV := hid hv
  have HL : Hid (zs.length = n) := hv.1
  have HC : Hid (∀ k : Nat, k < n → ∃ d : Int, w.cell? ⟨b, off + k, none⟩ = some (.int .u8 d) ∧ Hid (∃ h : k < zs.length, zs[k] = d)) := by
    intro k hk
    obtain ⟨b', off', e, hb, hkl, hc⟩ := hv.at k hk
    obtain ⟨rfl, rfl⟩ : b = b' ∧ off = off' := ⟨congrArg Addr.block (Option.some.inj e), congrArg Addr.off (Option.some.inj e)⟩
    exact ⟨_, hc, hkl, rfl⟩
  obtain ⟨R, HR⟩ : ∃ R, Hid (R = A 0 zs i) := ⟨_, rfl⟩
  rw [← HR.out]
  clear hv
  obtain ⟨d, hci, hdi⟩ := HC.out i hi
  go_enter Try.func16, Try.ntmps16
  -- the sign
  by_cases hs : d = 45
  case' pos =>
    have hb1 : (d == 45) = true := beq_iff_eq.2 hs
    have R1 : Hid (R = A 1 zs (i + 1)) := now (by obtain ⟨h, e⟩ := hdi.out; rw [HR.out, p_minus zs i h (by rw [e, hs])])
    clear hs
    go_upto_region 4 with fail
    rw [show ((i : Int) + 1) = ((i + 1 : Nat) : Int) from by omega]
    obtain ⟨j, hj⟩ : ∃ j, j = i + 1 := ⟨_, rfl⟩
    rw [← hj] at R1 ⊢
  case' neg =>
    have hb1 : (d == 45) = false := beq_eq_false_iff_ne.2 hs
    have R1 : Hid (R = A 1 zs i) := now (by obtain ⟨h, e⟩ := hdi.out; rw [HR.out, p_nominus zs i h (by rw [e]; exact hs)])
    clear hs
    go_upto_region 4 with fail
    obtain ⟨j, hj⟩ : ∃ j, j = i := ⟨_, rfl⟩
    rw [← hj] at R1 ⊢
  all_goals
    have hjn : j ≤ n := by omega
    clear hb1 hci hj hdi HR hi
  -- the integer
  all_goals
    by_cases hlt : j < n
    case' pos =>
      obtain ⟨d1, hc1, hd1⟩ := HC.out j hlt
      have hl1 : decide ((j : Int) < (n : Int)) = true := decide_eq_true (by omega)
    case' neg =>
      have hl1 : decide ((j : Int) < (n : Int)) = false := decide_eq_false (by omega)
      have R2 : Hid (R = (j, false)) := now (by rw [R1.out, A_end 1 zs j (by rw [HL.out]; omega)]; rfl)
      go_wp2
      go_ret2
      rw [R2.out]
      exact ⟨rfl, rfl⟩
  all_goals
    by_cases h48 : d1 = 48
    case' pos =>
      have hb48 : (d1 == 48) = true := beq_iff_eq.2 h48
      have R2 : Hid (R = A 2 zs (j + 1)) := now (by obtain ⟨h, e⟩ := hd1.out; rw [R1.out, p_zero zs j h (by rw [e, h48])])
      clear h48 R1
      go_upto_region 8 with fail
      rw [show ((j : Int) + 1) = ((j + 1 : Nat) : Int) from by omega]
      obtain ⟨k, hk⟩ : ∃ k, k = j + 1 := ⟨_, rfl⟩
      rw [← hk] at R2 ⊢
      have hkn : k ≤ n := by omega
      clear hk hb48
    case' neg =>
      have hb48 : (d1 == 48) = false := beq_eq_false_iff_ne.2 h48
      by_cases hdig : 49 ≤ d1 ∧ d1 ≤ 57
      case' pos =>
        obtain ⟨hg1, hg2⟩ := hdig
        have hb49 : decide (49 ≤ d1) = true := decide_eq_true hg1
        have hb57 : decide (d1 ≤ 57) = true := decide_eq_true hg2
        have R2 : Hid (R = A 2 zs (j + 1 + dg (zs.drop (j + 1)))) := now (by obtain ⟨h, e⟩ := hd1.out; rw [R1.out, p_digits zs j h (by rw [e]; exact hg1) (by rw [e]; exact hg2)])
        have hle := dg_le (zs.drop (j + 1))
        rw [List.length_drop, HL.out] at hle
        clear h48 R1
        go_wp2_with fail
        rw [show ((j : Int) + 1) = ((j + 1 : Nat) : Int) from by omega]
        refine (digits_any _ _ _ zs (j + 1) _ HV.out hm (by omega)).mono ?_
        rintro e w' ⟨rfl, rfl⟩
        obtain ⟨k, hk⟩ : ∃ k, k = j + 1 + dg (zs.drop (j + 1)) := ⟨_, rfl⟩
        rw [← hk] at R2 ⊢
        have hkn : k ≤ n := by omega
        clear hk hb48 hb49 hb57 hle hg1 hg2
        go_upto_region 8 with fail
      case' neg =>
        have R2 : Hid (R = (j, false)) := now (by obtain ⟨h, e⟩ := hd1.out; rw [R1.out, p_noint zs j h (dgt_not (by rw [e]; omega))])
        clear h48 R1
        by_cases hg1 : 49 ≤ d1
        · have hb49 : decide (49 ≤ d1) = true := decide_eq_true hg1
          have hb57 : decide (d1 ≤ 57) = false := decide_eq_false (by omega)
          go_wp2
          go_ret2
          rw [R2.out]
          exact ⟨rfl, rfl⟩
        · have hb49 : decide (49 ≤ d1) = false := decide_eq_false hg1
          go_wp2
          go_ret2
          rw [R2.out]
          exact ⟨rfl, rfl⟩
  -- the fraction
  all_goals
    clear hjn hlt hc1 hd1 hl1
    by_cases hlt : k < n
    case' neg =>
      have hl2 : decide ((k : Int) < (n : Int)) = false := decide_eq_false (by omega)
      have R3 : Hid (R = (k, true)) := now (by rw [R2.out, A_end 2 zs k (by rw [HL.out]; omega)]; rfl)
      go_wp2
      go_ret2
      rw [R3.out]
      exact ⟨rfl, rfl⟩
    case' pos =>
      obtain ⟨d2, hc2, hd2⟩ := HC.out k hlt
      have hl2 : decide ((k : Int) < (n : Int)) = true := decide_eq_true (by omega)
  all_goals
    by_cases h46 : d2 = 46
    case' neg =>
      have hb46 : (d2 == 46) = false := beq_eq_false_iff_ne.2 h46
      have R3 : Hid (R = X zs k) := now (by obtain ⟨h, e⟩ := hd2.out; rw [R2.out, p_nodot zs k h (by rw [e]; exact h46)])
      clear h46 R2
      go_upto_region 13 with fail
      obtain ⟨m, hm2⟩ : ∃ m, m = k := ⟨_, rfl⟩
      rw [← hm2] at R3 ⊢
      have hmn : m ≤ n := by omega
      clear hm2 hb46
    case' pos =>
      have hb46 : (d2 == 46) = true := beq_iff_eq.2 h46
      have R3 : Hid (R = A 4 zs (k + 1)) := now (by obtain ⟨h, e⟩ := hd2.out; rw [R2.out, p_dot zs k h (by rw [e, h46])])
      have hle := dg_le (zs.drop (k + 1))
      rw [List.length_drop, HL.out] at hle
      obtain ⟨D, HD⟩ : ∃ D, Hid (D = dg (zs.drop (k + 1))) := ⟨_, rfl⟩
      rw [← HD.out] at hle
      clear h46 R2
      go_wp2_with fail
      rw [show ((k : Int) + 1) = ((k + 1 : Nat) : Int) from by omega]
      refine (digits_any _ _ _ zs (k + 1) _ HV.out hm (by omega)).mono ?_
      rintro e w' ⟨rfl, rfl⟩
      rw [← HD.out, show (((k + 1 + D : Nat)) : Int) = (k : Int) + 1 + (D : Int) from by omega, show ((k + 1 : Nat) : Int) = (k : Int) + 1 from by omega]
      by_cases hD0 : D = 0
      case' pos =>
        have hbD : ((k : Int) + 1 + (D : Int) == (k : Int) + 1) = true := beq_iff_eq.2 (by omega)
        have R4 : Hid (R = (k + 1, false)) := now (by rw [R3.out, p_nofrac zs (k + 1) (by rw [← HD.out]; exact hD0)])
        have hDz : Hid (((k : Int) + 1 + (D : Int)) = ((k + 1 : Nat) : Int)) := now (by omega)
        clear R3 hD0
        go_wp2
        go_ret2
        rw [R4.out]
        exact ⟨by simp; exact hDz.out, rfl⟩
      case' neg =>
        have hbD : ((k : Int) + 1 + (D : Int) == (k : Int) + 1) = false := beq_eq_false_iff_ne.2 (by omega)
        have R4 : Hid (R = X zs (k + 1 + D)) := now (by rw [R3.out, p_frac zs (k + 1) (by rw [← HD.out]; exact hD0), ← HD.out])
        clear R3 hD0
        go_upto_region 13 with fail
        rw [show ((k : Int) + 1 + (D : Int)) = ((k + 1 + D : Nat) : Int) from by omega]
        obtain ⟨m, hm2⟩ : ∃ m, m = k + 1 + D := ⟨_, rfl⟩
        rw [← hm2] at R4 ⊢
        have hmn : m ≤ n := by omega
        have R3 := R4
        clear hm2 hb46 hbD HD hle R4
  -- the exponent
  all_goals
    clear hkn hlt hc2 hd2 hl2
    by_cases hlt : m < n
    case' neg =>
      have hl3 : decide ((m : Int) < (n : Int)) = false := decide_eq_false (by omega)
      have R5 : Hid (R = (m, true)) := now (by rw [R3.out, p_expend zs m (by rw [HL.out]; omega)])
      go_wp2
      go_ret2
      rw [R5.out]
      exact ⟨rfl, rfl⟩
    case' pos =>
      obtain ⟨d3, hc3, hd3⟩ := HC.out m hlt
      have hl3 : decide ((m : Int) < (n : Int)) = true := decide_eq_true (by omega)
  all_goals
    have hE3 : ((d3 == 101) = false ∧ (d3 == 69) = false) ∨ (ee d3 = true ∧ (d3 == 101) = true) ∨ (ee d3 = true ∧ (d3 == 101) = false ∧ (d3 == 69) = true) := by
      cases h1 : (d3 == 101) <;> cases h2 : (d3 == 69) <;> simp [ee, h1, h2]
    rcases hE3 with ⟨he1, he2⟩ | hE3
    case' inl =>
      have R5 : Hid (R = (m, true)) := now (by obtain ⟨h, e⟩ := hd3.out; rw [R3.out, p_noexp zs m h (by rw [e]; simp [ee, he1, he2])])
      clear R3
      go_wp2
      go_ret2
      rw [R5.out]
      exact ⟨rfl, rfl⟩
    case' inr =>
      have R5 : Hid (R = A 6 zs (m + 1)) := now (by
        obtain ⟨h, e⟩ := hd3.out
        have hee : ee zs[m] = true := by rcases hE3 with h | h <;> (rw [e]; exact h.1)
        rw [R3.out, p_exp zs m h hee])
      clear R3
      rcases hE3 with ⟨-, he1⟩ | ⟨-, he1, he2⟩
  all_goals
    go_upto_region 15 with fail
    rw [show ((m : Int) + 1) = ((m + 1 : Nat) : Int) from by omega]
    obtain ⟨p, hp⟩ : ∃ p, p = m + 1 := ⟨_, rfl⟩
    rw [← hp] at R5 ⊢
    have hpn : p ≤ n := by omega
    clear hp he1 hmn hlt hc3 hd3 hl3
  all_goals try clear he2
  -- the exponent's sign
  all_goals
    by_cases hlt : p < n
    case' neg =>
      have hl4 : decide ((p : Int) < (n : Int)) = false := decide_eq_false (by omega)
      have R6 : Hid (R = (p, false)) := now (by rw [R5.out, p_signend zs p (by rw [HL.out]; omega), A_end 7 zs p (by rw [HL.out]; omega)]; rfl)
      have HZ : Hid (p + dg (zs.drop p) = p) := dg_end zs p (by rw [HL.out]; omega)
      have hpp : ((p : Int) == (p : Int)) = true := by simp
      go_wp2_with fail
      refine (digits_any _ _ _ zs p _ HV.out hm (by omega)).mono ?_
      rintro e w' ⟨rfl, rfl⟩
      rw [HZ.out]
      go_wp2
      go_ret2
      rw [R6.out]
      exact ⟨rfl, rfl⟩
    case' pos =>
      obtain ⟨d4, hc4, hd4⟩ := HC.out p hlt
      have hl4 : decide ((p : Int) < (n : Int)) = true := decide_eq_true (by omega)
      have hS4 : (sgn d4 = false ∧ (d4 == 43) = false ∧ (d4 == 45) = false) ∨ (sgn d4 = true ∧ (d4 == 43) = true) ∨ (sgn d4 = true ∧ (d4 == 43) = false ∧ (d4 == 45) = true) := by
        cases h1 : (d4 == 43) <;> cases h2 : (d4 == 45) <;> simp [sgn, h1, h2]
      rcases hS4 with ⟨hsg, hs1, hs2⟩ | ⟨hsg, hs1⟩ | ⟨hsg, hs1, hs2⟩
    case' pos.inl =>
      have R6 : Hid (R = A 7 zs p) := now (by obtain ⟨h, e⟩ := hd4.out; rw [R5.out, p_nosign zs p h (by rw [e]; exact hsg)])
      clear R5
      go_wp2_with fail
      obtain ⟨g, hg⟩ : ∃ g, g = p := ⟨_, rfl⟩
      rw [← hg] at R6 ⊢
    case' pos.inr.inl =>
      have R6 : Hid (R = A 7 zs (p + 1)) := now (by obtain ⟨h, e⟩ := hd4.out; rw [R5.out, p_sign zs p h (by rw [e]; exact hsg)])
      clear R5
      go_wp2_with fail
      rw [show ((p : Int) + 1) = ((p + 1 : Nat) : Int) from by omega]
      obtain ⟨g, hg⟩ : ∃ g, g = p + 1 := ⟨_, rfl⟩
      rw [← hg] at R6 ⊢
    case' pos.inr.inr =>
      have R6 : Hid (R = A 7 zs (p + 1)) := now (by obtain ⟨h, e⟩ := hd4.out; rw [R5.out, p_sign zs p h (by rw [e]; exact hsg)])
      clear R5
      go_wp2_with fail
      rw [show ((p : Int) + 1) = ((p + 1 : Nat) : Int) from by omega]
      obtain ⟨g, hg⟩ : ∃ g, g = p + 1 := ⟨_, rfl⟩
      rw [← hg] at R6 ⊢
  -- the exponent's digits
  all_goals
    have hgn : g ≤ n := by omega
    clear hg hs1 hsg hlt hc4 hd4 hl4
    refine (digits_any _ _ _ zs g _ HV.out hm hgn).mono ?_
    rintro e w' ⟨rfl, rfl⟩
    obtain ⟨D, HD⟩ : ∃ D, Hid (D = dg (zs.drop g)) := ⟨_, rfl⟩
    rw [← HD.out, show (((g + D : Nat)) : Int) = (g : Int) + (D : Int) from by omega]
    by_cases hD0 : D = 0
    · have hbD : ((g : Int) + (D : Int) == (g : Int)) = true := beq_iff_eq.2 (by omega)
      have R7 : Hid (R = (g, false)) := now (by rw [R6.out, p_noexpdigits zs g (by rw [← HD.out]; exact hD0)])
      have hDz : Hid (((g : Int) + (D : Int)) = (g : Int)) := now (by omega)
      clear R6 hD0
      go_wp2
      go_ret2
      rw [R7.out]
      exact ⟨by simp; exact hDz.out, rfl⟩
    · have hbD : ((g : Int) + (D : Int) == (g : Int)) = false := beq_eq_false_iff_ne.2 (by omega)
      have R7 : Hid (R = (g + D, true)) := now (by rw [R6.out, p_expdigits zs g (by rw [← HD.out]; exact hD0), ← HD.out])
      clear R6 hD0
      go_wp2
      go_ret2
      rw [R7.out]
      exact ⟨by simp, rfl⟩

/-- skipNumber, at every place up to the end. -/
theorem skip_any (ad : Option Addr) (n c : Nat) (zs : List Int) (i : Nat) (w : World) (hv : View w ad n zs) (hm : n ≤ 1048577) (hi : i ≤ n) :
    Calls Try.prog 16 #[.slice ad n c, .int .i64 (i : Int)] w fun e w' => e = .returned (.tuple #[.int .i64 ((A 0 zs i).1 : Int), .bool (A 0 zs i).2]) ∧ w' = w := by
  by_cases hlt : i < n
  · obtain ⟨b, off, rfl, -⟩ := hv.at i hlt
    exact skip_some b off n c zs i w hv hm hlt
  · have e : A 0 zs i = (i, false) := by rw [A_end 0 zs i (by have := hv.1; omega)]; rfl
    rw [e]
    exact skip_big ad n c i w (by omega)

/-- The pass-through. -/
theorem zzskip_any (ad : Option Addr) (n c : Nat) (zs : List Int) (i : Nat) (w : World) (hv : View w ad n zs) (hm : n ≤ 1048577) (hi : i ≤ n) :
    Calls Try.prog 8 #[.slice ad n c, .int .i64 (i : Int)] w fun e w' => e = .returned (.tuple #[.int .i64 ((A 0 zs i).1 : Int), .bool (A 0 zs i).2]) ∧ w' = w := by
  have HV := hid hv
  clear hv
  go_enter Try.func8, Try.ntmps8
  go_wp2_with fail
  refine (skip_any ad n c zs i _ HV.out hm hi).mono ?_
  rintro e w' ⟨rfl, rfl⟩
  go_wp2
  go_ret2
  exact ⟨rfl, rfl⟩

theorem zzskip_big (ad : Option Addr) (n c : Nat) (i : Int) (w : World) (hi : (n : Int) ≤ i) :
    Calls Try.prog 8 #[.slice ad n c, .int .i64 i] w fun e w' => e = .returned (.tuple #[.int .i64 i, .bool false]) ∧ w' = w := by
  go_enter Try.func8, Try.ntmps8
  go_wp2_with fail
  refine (skip_big ad n c i _ hi).mono ?_
  rintro e w' ⟨rfl, rfl⟩
  go_wp2
  go_ret2
  exact ⟨rfl, rfl⟩

end Go.Proofs.Qxb6617975a.Num
