/- The walk of zzBlankColonBlank. -/
import Derived.Test.Qxb6617975aColWalks
namespace Go.Proofs.Qxb6617975a.Col
open Go.RowKit
set_option linter.unusedVariables false

set_option maxHeartbeats 3200000 in
theorem model_any (ad : Option Addr) (n c : Nat) (zs : List Int) (i : Nat) (w : World) (hv : View w ad n zs) (hm : n ≤ 1048577) (hi : i ≤ n) :
    Calls Try.prog 13 #[.slice ad n c, .int .i64 (i : Int)] w fun e w' => e = .returned (.tuple #[.int .i64 (endAt zs i : Int), .bool (okAt zs i)]) ∧ w' = w := by
  have HV := hid hv
  have HL : Hid (zs.length = n) := hv.1
  obtain ⟨E, HE⟩ : ∃ E, Hid (E = endAt zs i) := ⟨_, rfl⟩
  obtain ⟨O, HO⟩ : ∃ O, Hid (O = okAt zs i) := ⟨_, rfl⟩
  rw [← HE.out, ← HO.out]
  clear hv
  go_enter Try.func13, Try.ntmps13
  go_wp2
  go_loop [6, 7, 8, 9] (fun st l0 l1 x => ∃ p : Nat, p ≤ n ∧ x = .int .i64 p ∧
      ((st = .int .i64 0 ∧ l0 = .int .i64 p ∧ l1 = .int .i64 (-1) ∧ Hid (E = endAt zs p ∧ O = okAt zs p)) ∨
       (st = .int .i64 1 ∧ (∃ y, l0 = .int .i64 y) ∧ l1 = .int .i64 p ∧ Hid (E = p + sp (zs.drop p) ∧ O = true)))) (fun _ _ _ x => n - (intOf x).toNat)
  case atStart => exact ⟨i, hi, rfl, .inl ⟨rfl, rfl, rfl, HE.out, HO.out⟩⟩
  case round =>
    obtain ⟨p, hp, rfl, ⟨rfl, rfl, rfl, hE⟩ | ⟨rfl, ⟨y, rfl⟩, rfl, hE⟩⟩ := hrel
    · by_cases hlt : p < n
      · obtain ⟨b, off, rfl, hb, hpl, hcp⟩ := HV.out.at p hlt
        cases hbl : blank zs[p]
        · by_cases h58 : zs[p] = 58
          · have hb2 : (zs[p] == 58) = true := beq_iff_eq.2 h58
            have HF : Hid (E = (p + 1 : Nat) + sp (zs.drop (p + 1)) ∧ O = true) := by
              have := at_colon zs p hpl h58
              exact ⟨by rw [hE.out.1, this.1], by rw [hE.out.2, this.2]⟩
            clear h58 hE
            go_wp2_with (go_at_call 14; refine (blank_any _ _).mono ?_; rintro e w' ⟨rfl, rfl⟩)
            go_round
            case rel => exact ⟨p + 1, by omega, by go_num, .inr ⟨rfl, ⟨_, rfl⟩, by go_num, HF⟩⟩
            case measure => simp [intOf]; omega
          · have hb2 : (zs[p] == 58) = false := beq_eq_false_iff_ne.2 h58
            have HF : Hid (E = p ∧ O = false) := by
              have := at_other zs p hpl hbl h58
              exact ⟨by rw [hE.out.1, this.1], by rw [hE.out.2, this.2]⟩
            clear h58 hE
            go_wp2_with (go_at_call 14; refine (blank_any _ _).mono ?_; rintro e w' ⟨rfl, rfl⟩)
            go_ret2
            rw [HF.out.1, HF.out.2]
            exact ⟨rfl, rfl⟩
        · have HF : Hid (E = endAt zs (p + 1) ∧ O = okAt zs (p + 1)) := by
            have := at_blank zs p hpl hbl
            exact ⟨by rw [hE.out.1, this.1], by rw [hE.out.2, this.2]⟩
          clear hE
          go_wp2_with (go_at_call 14; refine (blank_any _ _).mono ?_; rintro e w' ⟨rfl, rfl⟩)
          go_round
          case rel => exact ⟨p + 1, by omega, by go_num, .inl ⟨rfl, by go_num, rfl, HF⟩⟩
          case measure => simp [intOf]; omega
      · have HF : Hid (E = p ∧ O = false) := by
          have := at_end zs p (by rw [HL.out]; omega)
          exact ⟨by rw [hE.out.1, this.1], by rw [hE.out.2, this.2]⟩
        clear hE
        go_wp2
        go_ret2
        rw [HF.out.1, HF.out.2]
        exact ⟨rfl, rfl⟩
    · by_cases hlt : p < n
      · obtain ⟨b, off, rfl, hb, hpl, hcp⟩ := HV.out.at p hlt
        cases hbl : blank zs[p]
        · have HF : Hid (E = p ∧ O = true) := ⟨by rw [hE.out.1, sp_other zs p hpl hbl], hE.out.2⟩
          clear hE
          by_cases h58 : zs[p] = 58
          · have hb2 : (zs[p] == 58) = true := beq_iff_eq.2 h58
            clear h58
            go_wp2_with (go_at_call 14; refine (blank_any _ _).mono ?_; rintro e w' ⟨rfl, rfl⟩)
            go_ret2
            rw [HF.out.1, HF.out.2]
            exact ⟨rfl, rfl⟩
          · have hb2 : (zs[p] == 58) = false := beq_eq_false_iff_ne.2 h58
            clear h58
            go_wp2_with (go_at_call 14; refine (blank_any _ _).mono ?_; rintro e w' ⟨rfl, rfl⟩)
            go_ret2
            rw [HF.out.1, HF.out.2]
            exact ⟨rfl, rfl⟩
        · have HF : Hid (E = (p + 1 : Nat) + sp (zs.drop (p + 1)) ∧ O = true) := ⟨by rw [hE.out.1, sp_blank zs p hpl hbl], hE.out.2⟩
          clear hE
          go_wp2_with (go_at_call 14; refine (blank_any _ _).mono ?_; rintro e w' ⟨rfl, rfl⟩)
          go_round
          case rel => exact ⟨p + 1, by omega, by go_num, .inr ⟨rfl, ⟨_, rfl⟩, by go_num, HF⟩⟩
          case measure => simp [intOf]; omega
      · have HF : Hid (E = p ∧ O = true) := ⟨by rw [hE.out.1, sp_end zs p (by rw [HL.out]; omega)], hE.out.2⟩
        clear hE
        go_wp2
        go_ret2
        rw [HF.out.1, HF.out.2]
        exact ⟨rfl, rfl⟩

end Go.Proofs.Qxb6617975a.Col
