/- The walk of canonicalInt. -/
import Derived.Test.Qxb6617859aDoorCanWalks
namespace Go.Proofs.Qxb6617859aDoor.Can
open Go.RowKit

theorem canon0 (ad : Option Addr) (c : Nat) (sg : Bool) (w : World) :
    Calls Tryd.prog 14 #[.slice ad (0 : Nat) c, .bool sg] w fun e w' => e = .returned (.bool false) ∧ w' = w := by
  cases sg
  · go_enter Tryd.func14, Tryd.ntmps14
    go_wp2
    go_ret
    exact ⟨rfl, rfl⟩
  · go_enter Tryd.func14, Tryd.ntmps14
    go_wp2
    go_ret
    exact ⟨rfl, rfl⟩

/-- No sign is taken off; a leading zero. -/
theorem canon_zero (b off n c : Nat) (z0 : Int) (sg : Bool) (w : World) (hn : 1 < n) (hm : n ≤ 1048577) (hz : z0 = 48) (hc : w.cell? ⟨b, off, none⟩ = some (.int .u8 z0)) :
    Calls Tryd.prog 14 #[.slice (some ⟨b, off, none⟩) n c, .bool sg] w fun e w' => e = .returned (.bool false) ∧ w' = w := by
  subst hz
  cases sg
  · go_enter Tryd.func14, Tryd.ntmps14
    go_wp2
    go_ret
    exact ⟨rfl, rfl⟩
  · go_enter Tryd.func14, Tryd.ntmps14
    go_wp2
    go_ret
    exact ⟨rfl, rfl⟩

def AllTo (zs : List Int) (k : Nat) : Prop := (zs.take k).all dig = true

theorem all_step {zs : List Int} {k : Nat} (hk : k < zs.length) (h : AllTo zs k) (h1 : 48 ≤ zs[k]) (h2 : zs[k] ≤ 57) : AllTo zs (k + 1) := by
  unfold AllTo at *
  rw [List.take_succ_eq_append_getElem hk, List.all_append, h]
  simp [dig, h1, h2]

theorem all_stop {zs : List Int} {k : Nat} (hk : k < zs.length) (h : zs[k] < 48 ∨ 57 < zs[k]) : zs.all dig = false := by
  rw [List.all_eq_false]
  refine ⟨zs[k], List.getElem_mem hk, ?_⟩
  simp only [dig, Bool.and_eq_true, decide_eq_true_eq]
  omega

set_option maxHeartbeats 1600000 in
/-- No sign is taken off, no leading zero: the loop. -/
theorem canon_loop (b off n c : Nat) (zs : List Int) (sg : Bool) (w : World) (hl : zs.length = n) (hn : 0 < n) (hm : n ≤ 1048577) (hsg : sg = true → zs.getD 0 0 ≠ 45) (hz : n = 1 ∨ zs.getD 0 0 ≠ 48)
    (hc : ∀ i, i < n → w.cell? ⟨b, off + i, none⟩ = some (.int .u8 (zs.getD i 0))) :
    Calls Tryd.prog 14 #[.slice (some ⟨b, off, none⟩) n c, .bool sg] w fun e w' => e = .returned (.bool (zs.all dig)) ∧ w' = w := by
  have hc0 : w.cell? ⟨b, off, none⟩ = some (.int .u8 (zs.getD 0 0)) := by simpa using hc 0 hn
  obtain ⟨z0, HZ⟩ : ∃ z0, Hid (z0 = zs.getD 0 0) := ⟨_, rfl⟩
  have e0 : w.cell? ⟨b, off, none⟩ = some (.int .u8 z0) := by rw [HZ.out]; exact hc0
  have HC : Hid (∀ i, i < n → w.cell? ⟨b, off + i, none⟩ = some (.int .u8 (zs.getD i 0))) := hc
  have HL : Hid (zs.length = n) := hl
  have HS : Hid (sg = true → z0 ≠ 45) := by rw [HZ.out]; exact hsg
  have HN : Hid (n = 1 ∨ z0 ≠ 48) := by rw [HZ.out]; exact hz
  clear hc0 hc hl hsg hz
  have h45 : sg = false ∨ (sg = true ∧ (z0 == 45) = false) := by
    cases sg
    · exact .inl rfl
    · exact .inr ⟨rfl, beq_eq_false_iff_ne.2 (HS.out rfl)⟩
  have h48 : n ≤ 1 ∨ (z0 == 48) = false := by
    rcases HN.out with h | h
    · exact .inl (by omega)
    · exact .inr (beq_eq_false_iff_ne.2 h)
  have R : ∀ k : Nat, k < n → ∃ h : k < zs.length, w.cell? ⟨b, off + k, none⟩ = some (.int .u8 zs[k]) := by
    intro k hk
    have hlt : k < zs.length := by rw [HL.out]; exact hk
    refine ⟨hlt, ?_⟩
    rw [HC.out k hk, List.getD_eq_getElem?_getD, List.getElem?_eq_getElem hlt]; rfl
  have HR := (show Hid _ from R)
  clear R
  have hn0 : ((n : Int) == 0) = false := beq_eq_false_iff_ne.2 (by omega)
  have hn1 : decide ((0 : Int) < (n : Int)) = true := decide_eq_true (by omega)
  rcases h45 with rfl | ⟨rfl, h45⟩ <;> rcases h48 with h48 | h48
  case' inl.inl => have hn2 : decide ((1 : Int) < (n : Int)) = false := decide_eq_false (by omega)
  case' inr.inl => have hn2 : decide ((1 : Int) < (n : Int)) = false := decide_eq_false (by omega)
  all_goals
    go_enter Tryd.func14, Tryd.ntmps14
    go_wp2
  all_goals
    go_loop [46] (fun i => ∃ k : Nat, k ≤ n ∧ i = .int .i64 k ∧ AllTo zs k) (fun i => n - (intOf i).toNat)
    case atStart => exact ⟨0, Nat.zero_le _, rfl, rfl⟩
    case round =>
      obtain ⟨k, hk, rfl, hal⟩ := hrel
      by_cases hlt : k < n
      · obtain ⟨hkl, hck⟩ := HR.out k hlt
        by_cases hd : zs[k] < 48 ∨ 57 < zs[k]
        · have hst := all_stop hkl hd
          have HST := (show Hid _ from hst)
          clear hst hal
          rcases hd with hd | hd
          · go_wp2
            go_ret
            rw [HST.out]
            exact ⟨rfl, rfl⟩
          · go_wp2
            go_ret
            rw [HST.out]
            exact ⟨rfl, rfl⟩
        · have hd1 : 48 ≤ zs[k] := by omega
          have hd2 : zs[k] ≤ 57 := by omega
          have hst := all_step hkl hal hd1 hd2
          have HST := (show Hid _ from hst)
          have b1 : decide (zs[k] < 48) = false := decide_eq_false (by omega)
          have b2 : decide (57 < zs[k]) = false := decide_eq_false (by omega)
          clear hst hal hd
          go_wp2
          go_round
          case rel => exact ⟨k + 1, by omega, by go_num, HST.out⟩
          case measure => simp [intOf]; omega
      · have e : zs.all dig = true := by have hal' : (zs.take k).all dig = true := hal; rw [← hal', List.take_of_length_le (by rw [HL.out]; omega)]
        have HE := (show Hid _ from e)
        clear e hal
        go_wp2
        go_ret
        rw [HE.out]
        exact ⟨rfl, rfl⟩

end Go.Proofs.Qxb6617859aDoor.Can
