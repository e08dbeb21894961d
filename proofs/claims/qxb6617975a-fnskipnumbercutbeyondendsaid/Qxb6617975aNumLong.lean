/- The walks of zzLongestViable and of skipDigits. -/
import Derived.Test.Qxb6617975aNumModel
namespace Go.Proofs.Qxb6617975a.Num
open Go.RowKit Go.Proofs.Qxb6617975a.Col
set_option linter.unusedVariables false

/-- A place at or behind the end. -/
theorem long_big (ad : Option Addr) (n c : Nat) (i : Int) (w : World) (hi : (n : Int) ≤ i) :
    Calls Try.prog 9 #[.slice ad n c, .int .i64 i] w fun e w' => e = .returned (.tuple #[.int .i64 i, .bool false]) ∧ w' = w := by
  go_enter Try.func9, Try.ntmps9
  go_wp2
  refine wp_loop_rounds 1 ?_
  rw [rounds_succ]
  go_wp2_with (go_at_call 18; refine (comp_any _ _).mono ?_; rintro e w' ⟨rfl, rfl⟩)
  rw [show comp 0 = false from by decide]
  go_wp2
  go_ret2
  exact ⟨rfl, rfl⟩

set_option maxHeartbeats 1600000 in
theorem long_any (ad : Option Addr) (n c : Nat) (zs : List Int) (i : Nat) (w : World) (hv : View w ad n zs) (hm : n ≤ 1048577) (hi : i ≤ n) :
    Calls Try.prog 9 #[.slice ad n c, .int .i64 (i : Int)] w fun e w' => e = .returned (.tuple #[.int .i64 ((A 0 zs i).1 : Int), .bool (A 0 zs i).2]) ∧ w' = w := by
  have HV := hid hv
  have HL : Hid (zs.length = n) := hv.1
  obtain ⟨R, HR⟩ : ∃ R, Hid (R = A 0 zs i) := ⟨_, rfl⟩
  rw [← HR.out]
  clear hv
  go_enter Try.func9, Try.ntmps9
  go_wp2
  go_loop [6, 7] (fun st x => ∃ (s : Int) (p : Nat), 0 ≤ s ∧ s ≤ 8 ∧ p ≤ n ∧ st = .int .i64 s ∧ x = .int .i64 p ∧ Hid (R = A s zs p)) (fun _ x => n - (intOf x).toNat)
  case atStart => exact ⟨0, i, by omega, by omega, hi, rfl, rfl, HR⟩
  case round =>
    obtain ⟨s, p, hs0, hs8, hp, rfl, rfl, hE⟩ := hrel
    by_cases hlt : p < n
    · obtain ⟨b, off, rfl, hb, hpl, hcp⟩ := HV.out.at p hlt
      obtain ⟨t, HT⟩ : ∃ t, Hid (step s zs[p] = t) := ⟨step s zs[p], rfl⟩
      have ht8 : t ≤ 8 := by rw [← HT.out]; exact step_le _ _
      by_cases hneg : t < 0
      · have HF : Hid (R = (p, comp s)) := by show _ = _; rw [hE.out, A_stop s zs p hpl (by rw [HT.out]; exact hneg)]
        clear hE
        go_wp2_with (first | (go_at_call 17; refine (step_any _ _ _ hs0 hs8).mono ?_; rintro e w' ⟨rfl, rfl⟩; rw [HT.out]) | (go_at_call 18; refine (comp_any _ _).mono ?_; rintro e w' ⟨rfl, rfl⟩))
        go_ret2
        rw [HF.out]
        exact ⟨rfl, rfl⟩
      · have HF : Hid (R = A t zs (p + 1)) := by show _ = _; rw [hE.out, A_go s t zs p hpl HT.out hneg]
        have ht0 : 0 ≤ t := by omega
        clear hE hneg
        go_wp2_with (first | (go_at_call 17; refine (step_any _ _ _ hs0 hs8).mono ?_; rintro e w' ⟨rfl, rfl⟩; rw [HT.out]))
        go_round
        case rel => exact ⟨t, p + 1, ht0, ht8, by omega, rfl, by go_num, HF⟩
        case measure => simp [intOf]; omega
    · have HF : Hid (R = (p, comp s)) := by show _ = _; rw [hE.out, A_end s zs p (by rw [HL.out]; omega)]
      clear hE
      go_wp2_with (go_at_call 18; refine (comp_any _ _).mono ?_; rintro e w' ⟨rfl, rfl⟩)
      go_ret2
      rw [HF.out]
      exact ⟨rfl, rfl⟩

set_option maxHeartbeats 1600000 in
theorem digits_any (ad : Option Addr) (n c : Nat) (zs : List Int) (i : Nat) (w : World) (hv : View w ad n zs) (hm : n ≤ 1048577) (hi : i ≤ n) :
    Calls Try.prog 20 #[.slice ad n c, .int .i64 (i : Int)] w fun e w' => e = .returned (.int .i64 ((i + dg (zs.drop i) : Nat) : Int)) ∧ w' = w := by
  have HV := hid hv
  have HL : Hid (zs.length = n) := hv.1
  obtain ⟨E, HE⟩ : ∃ E, Hid (E = i + dg (zs.drop i)) := ⟨_, rfl⟩
  rw [← HE.out]
  clear hv
  go_enter Try.func20, Try.ntmps20
  go_wp2
  go_loop [1] (fun x => ∃ k : Nat, k ≤ n ∧ x = .int .i64 k ∧ Hid (E = k + dg (zs.drop k))) (fun x => n - (intOf x).toNat)
  case atStart => exact ⟨i, hi, rfl, HE⟩
  case round =>
    obtain ⟨k, hk, rfl, hE⟩ := hrel
    by_cases hlt : k < n
    · obtain ⟨b, off, rfl, hb, hkl, hck⟩ := HV.out.at k hlt
      by_cases h1 : 48 ≤ zs[k]
      · have d1 : decide (48 ≤ zs[k]) = true := decide_eq_true h1
        by_cases h2 : zs[k] ≤ 57
        · have d2 : decide (zs[k] ≤ 57) = true := decide_eq_true h2
          have HF : Hid (E = k + 1 + dg (zs.drop (k + 1))) := by show _ = _; rw [hE.out, dg_digit zs k hkl (dgt_of h1 h2)]
          clear hE
          go_wp2
          go_round
          case rel => exact ⟨k + 1, by omega, by go_num, HF⟩
          case measure => simp [intOf]; omega
        · have d2 : decide (zs[k] ≤ 57) = false := decide_eq_false h2
          have HF : Hid (E = k) := by show _ = _; rw [hE.out, dg_other zs k hkl (dgt_not (by omega))]
          clear hE
          go_wp2
          go_ret
          rw [HF.out]
          exact ⟨rfl, rfl⟩
      · have d1 : decide (48 ≤ zs[k]) = false := decide_eq_false h1
        have HF : Hid (E = k) := by show _ = _; rw [hE.out, dg_other zs k hkl (dgt_not (by omega))]
        clear hE
        go_wp2
        go_ret
        rw [HF.out]
        exact ⟨rfl, rfl⟩
    · have HF : Hid (E = k) := by show _ = _; rw [hE.out, dg_end zs k (by rw [HL.out]; omega)]
      have hlt' : decide ((k : Int) < (n : Int)) = false := decide_eq_false (by omega)
      clear hE
      go_wp2
      go_ret
      rw [HF.out]
      exact ⟨rfl, rfl⟩

end Go.Proofs.Qxb6617975a.Num
