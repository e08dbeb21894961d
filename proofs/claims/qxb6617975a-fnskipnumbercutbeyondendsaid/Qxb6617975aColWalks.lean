/- The walks of skipSpace, skipColon, zzBlankColonBlank. -/
import Derived.Test.Qxb6617975aBase
namespace Go.Proofs.Qxb6617975a.Col
open Go.RowKit
set_option linter.unusedVariables false

theorem blank_parts {z : Int} (h : blank z = false) : (z == 32) = false ∧ (z == 9) = false ∧ (z == 10) = false ∧ (z == 13) = false := by
  simp only [blank, Bool.or_eq_false_iff] at h
  exact ⟨h.1.1.1, h.1.1.2, h.1.2, h.2⟩

theorem blank_ways {z : Int} (h : blank z = true) : (z == 32) = true ∨ ((z == 32) = false ∧ (z == 9) = true) ∨ ((z == 32) = false ∧ (z == 9) = false ∧ (z == 10) = true) ∨ ((z == 32) = false ∧ (z == 9) = false ∧ (z == 10) = false ∧ (z == 13) = true) := by
  unfold blank at h
  cases h1 : (z == 32) <;> cases h2 : (z == 9) <;> cases h3 : (z == 10) <;> cases h4 : (z == 13) <;> simp_all

set_option maxHeartbeats 1600000 in
theorem space_any (ad : Option Addr) (n c : Nat) (zs : List Int) (i : Nat) (w : World) (hv : View w ad n zs) (hm : n ≤ 1048577) (hi : i ≤ n) :
    Calls Try.prog 22 #[.slice ad n c, .int .i64 (i : Int)] w fun e w' => e = .returned (.int .i64 ((i + sp (zs.drop i) : Nat) : Int)) ∧ w' = w := by
  have HV := hid hv
  have HL : Hid (zs.length = n) := hv.1
  obtain ⟨E, HE⟩ : ∃ E, Hid (E = i + sp (zs.drop i)) := ⟨_, rfl⟩
  rw [← HE.out]
  clear hv
  go_enter Try.func22, Try.ntmps22
  go_wp2
  go_loop [1] (fun x => ∃ k : Nat, k ≤ n ∧ x = .int .i64 k ∧ Hid (E = k + sp (zs.drop k))) (fun x => n - (intOf x).toNat)
  case atStart => exact ⟨i, hi, rfl, HE⟩
  case round =>
    obtain ⟨k, hk, rfl, hE⟩ := hrel
    by_cases hlt : k < n
    · obtain ⟨b, off, rfl, hb, hkl, hck⟩ := HV.out.at k hlt
      cases hbl : blank zs[k]
      · obtain ⟨h1, h2, h3, h4⟩ := blank_parts hbl
        have HF : Hid (E = k) := by show _ = _; rw [hE.out, sp_other zs k hkl hbl]
        clear hbl
        go_wp2
        go_ret
        rw [HF.out]
        exact ⟨rfl, rfl⟩
      · have HF : Hid (E = k + 1 + sp (zs.drop (k + 1))) := by show _ = _; rw [hE.out, sp_blank zs k hkl hbl]
        rcases blank_ways hbl with h1 | ⟨h1, h2⟩ | ⟨h1, h2, h3⟩ | ⟨h1, h2, h3, h4⟩
        all_goals
          clear hbl hE
          go_wp2
          go_round
          case rel => exact ⟨k + 1, by omega, by go_num, HF⟩
          case measure => simp [intOf]; omega
    · have HF : Hid (E = k) := by show _ = _; rw [hE.out, sp_end zs k (by rw [HL.out]; omega)]
      have hlt' : decide ((k : Int) < (n : Int)) = false := decide_eq_false (by omega)
      go_wp2
      go_ret
      rw [HF.out]
      exact ⟨rfl, rfl⟩

set_option maxHeartbeats 1600000 in
theorem colon_any (ad : Option Addr) (n c : Nat) (zs : List Int) (i : Nat) (w : World) (hv : View w ad n zs) (hm : n ≤ 1048577) (hi : i ≤ n) :
    Calls Try.prog 19 #[.slice ad n c, .int .i64 (i : Int)] w fun e w' => e = .returned (.tuple #[.int .i64 (endAt zs i : Int), .bool (okAt zs i)]) ∧ w' = w := by
  have HV := hid hv
  have HL : Hid (zs.length = n) := hv.1
  have hsp := sp_le (zs.drop i)
  rw [List.length_drop, HL.out] at hsp
  clear hv
  obtain ⟨k, HK⟩ : ∃ k, Hid (k = i + sp (zs.drop i)) := ⟨_, rfl⟩
  have hk : k ≤ n := by have := HK.out; omega
  have hki : Hid (sp (zs.drop i) = k - i) := by have := HK.out; show _ = _; omega
  go_enter Try.func19, Try.ntmps19
  go_wp2_with fail
  refine (space_any _ _ _ zs i _ HV.out hm hi).mono ?_
  rintro e w1 ⟨rfl, rfl⟩
  rw [← HK.out]
  clear hsp
  by_cases hkn : k = n
  · have hb : ((k : Int) == (n : Int)) = true := beq_iff_eq.2 (by omega)
    have HF : Hid (colon (zs.drop i) = (sp (zs.drop i), false)) := colon_end _ (by rw [hki.out, List.length_drop, HL.out, hkn])
    have H1 : Hid (endAt zs i = k) := by show _ = _; unfold endAt; rw [HF.out]; show i + sp (zs.drop i) = k; exact HK.out.symm
    have H2 : Hid (okAt zs i = false) := by show _ = _; unfold okAt; rw [HF.out]
    have HKN := hid hkn
    clear hkn
    go_wp2
    go_ret2
    rw [H1.out, H2.out]
    exact ⟨rfl, rfl⟩
  · have hlt : k < n := by omega
    have hb : ((k : Int) == (n : Int)) = false := beq_eq_false_iff_ne.2 (by omega)
    obtain ⟨bk, off, rfl, hbk, hkl, hck⟩ := HV.out.at k hlt
    have hlt2 : sp (zs.drop i) < (zs.drop i).length := by have := HK.out; rw [List.length_drop, HL.out]; omega
    have hel : (zs.drop i)[sp (zs.drop i)] = zs[k] := by
      rw [List.getElem_drop]
      congr 1
      exact HK.out.symm
    by_cases h58 : zs[k] = 58
    · have hb2 : (zs[k] != 58) = false := by simp [h58]
      have HF : Hid (colon (zs.drop i) = (sp (zs.drop i) + 1 + sp ((zs.drop i).drop (sp (zs.drop i) + 1)), true)) := colon_colon _ hlt2 (by rw [hel, h58])
      have H1 : Hid (endAt zs i = k + 1 + sp (zs.drop (k + 1))) := by
        show _ = _
        unfold endAt
        rw [HF.out]
        show i + (sp (zs.drop i) + 1 + sp ((zs.drop i).drop (sp (zs.drop i) + 1))) = _
        rw [List.drop_drop, show i + (sp (zs.drop i) + 1) = k + 1 from by have := HK.out; omega]
        have := HK.out
        omega
      have H2 : Hid (okAt zs i = true) := by show _ = _; unfold okAt; rw [HF.out]
      clear h58 hel hlt2 HF hkn
      go_wp2_with fail
      rw [show ((k : Int) + 1) = ((k + 1 : Nat) : Int) from by omega]
      refine (space_any _ _ _ zs (k + 1) _ HV.out hm (by omega)).mono ?_
      rintro e w2 ⟨rfl, rfl⟩
      rw [← H1.out]
      go_wp2
      go_ret2
      rw [H2.out]
      exact ⟨rfl, rfl⟩
    · have hb2 : (zs[k] != 58) = true := by simp [h58]
      have HF : Hid (colon (zs.drop i) = (sp (zs.drop i), false)) := colon_other _ hlt2 (by rw [hel]; exact h58)
      have H1 : Hid (endAt zs i = k) := by show _ = _; unfold endAt; rw [HF.out]; show i + sp (zs.drop i) = k; exact HK.out.symm
      have H2 : Hid (okAt zs i = false) := by show _ = _; unfold okAt; rw [HF.out]
      clear h58 hel hlt2 HF hkn
      go_wp2
      go_ret2
      rw [H1.out, H2.out]
      exact ⟨rfl, rfl⟩

theorem zzcolon_any (ad : Option Addr) (n c : Nat) (zs : List Int) (i : Nat) (w : World) (hv : View w ad n zs) (hm : n ≤ 1048577) (hi : i ≤ n) :
    Calls Try.prog 12 #[.slice ad n c, .int .i64 (i : Int)] w fun e w' => e = .returned (.tuple #[.int .i64 (endAt zs i : Int), .bool (okAt zs i)]) ∧ w' = w := by
  have HV := hid hv
  clear hv
  go_enter Try.func12, Try.ntmps12
  go_wp2_with fail
  refine (colon_any ad n c zs i _ HV.out hm hi).mono ?_
  rintro e w' ⟨rfl, rfl⟩
  go_wp2
  go_ret2
  exact ⟨rfl, rfl⟩

end Go.Proofs.Qxb6617975a.Col
