/- The walk of canonicalInt where a minus sign is taken off; and canonicalInt's contract at every slice. -/
import Derived.Test.Qxb6617859aDoorCanInt
namespace Go.Proofs.Qxb6617859aDoor.Can
open Go.RowKit
set_option linter.unusedVariables false

/-- A minus sign and nothing behind it. -/
theorem sign_alone (b off c : Nat) (hcap : 1 ≤ c) (w : World) (hc : w.cell? ⟨b, off, none⟩ = some (.int .u8 45)) :
    Calls Tryd.prog 14 #[.slice (some ⟨b, off, none⟩) (1 : Nat) c, .bool true] w fun e w' => e = .returned (.bool false) ∧ w' = w := by
  go_enter Tryd.func14, Tryd.ntmps14
  go_wp2
  all_goals
    go_ret
    exact ⟨rfl, rfl⟩

/-- A minus sign and a zero behind it. -/
theorem sign_zero (b off n c : Nat) (hn : 1 < n) (hm : n ≤ 1048577) (hcap : n ≤ c) (w : World) (hc : w.cell? ⟨b, off, none⟩ = some (.int .u8 45)) (hc1 : w.cell? ⟨b, off + 1, none⟩ = some (.int .u8 48)) :
    Calls Tryd.prog 14 #[.slice (some ⟨b, off, none⟩) n c, .bool true] w fun e w' => e = .returned (.bool false) ∧ w' = w := by
  go_enter Tryd.func14, Tryd.ntmps14
  go_wp2
  all_goals
    go_ret
    exact ⟨rfl, rfl⟩

set_option maxHeartbeats 800000 in
/-- A minus sign and another byte than a zero behind it: the loop, over what stands behind the sign. -/
theorem sign_loop (b off n c : Nat) (zs : List Int) (w : World) (hl : zs.length = n) (hn : 0 < n) (hm : n ≤ 1048576) (hcap : n + 1 ≤ c) (hz : zs.getD 0 0 ≠ 48)
    (hs : w.cell? ⟨b, off, none⟩ = some (.int .u8 45)) (hc : ∀ i, i < n → w.cell? ⟨b, off + 1 + i, none⟩ = some (.int .u8 (zs.getD i 0))) :
    Calls Tryd.prog 14 #[.slice (some ⟨b, off, none⟩) (n + 1 : Nat) c, .bool true] w fun e w' => e = .returned (.bool (zs.all dig)) ∧ w' = w := by
  have hc0 : w.cell? ⟨b, off + 1, none⟩ = some (.int .u8 (zs.getD 0 0)) := by simpa using hc 0 hn
  obtain ⟨z0, HZ⟩ : ∃ z0, Hid (z0 = zs.getD 0 0) := ⟨_, rfl⟩
  have e0 : w.cell? ⟨b, off + 1, none⟩ = some (.int .u8 z0) := by rw [HZ.out]; exact hc0
  have h48 : (z0 == 48) = false := beq_eq_false_iff_ne.2 (by rw [HZ.out]; exact hz)
  have HL : Hid (zs.length = n) := hl
  have R : ∀ k : Nat, k < n → ∃ h : k < zs.length, w.cell? ⟨b, off + 1 + k, none⟩ = some (.int .u8 zs[k]) := by
    intro k hk
    have hlt : k < zs.length := by omega
    refine ⟨hlt, ?_⟩
    rw [hc k hk, List.getD_eq_getElem?_getD, List.getElem?_eq_getElem hlt]; rfl
  have HR := (show Hid _ from R)
  clear R hc0 hc hl hz
  have hn0 : ((n : Int) == 0) = false := beq_eq_false_iff_ne.2 (by omega)
  have hn1 : decide ((0 : Int) < (n : Int)) = true := decide_eq_true (by omega)
  go_enter Tryd.func14, Tryd.ntmps14
  go_wp2
  go_loop [46] (fun i => ∃ k : Nat, k ≤ n ∧ i = .int .i64 k ∧ AllTo zs k) (fun i => n - (intOf i).toNat)
  case atStart => exact ⟨0, Nat.zero_le _, rfl, rfl⟩
  case round =>
    obtain ⟨k, hk, rfl, hal⟩ := hrel
    by_cases hlt : k < n
    · obtain ⟨hkl, hck⟩ := HR.out k hlt
      by_cases hd : zs[k] < 48 ∨ 57 < zs[k]
      · have hst := all_stop hkl hd
        have HST := (show Hid _ from hst)
        clear hst hal
        rcases hd with hd | hd
        · go_wp2
          go_ret
          rw [HST.out]
          exact ⟨rfl, rfl⟩
        · go_wp2
          go_ret
          rw [HST.out]
          exact ⟨rfl, rfl⟩
      · have hd1 : 48 ≤ zs[k] := by omega
        have hd2 : zs[k] ≤ 57 := by omega
        have hst := all_step hkl hal hd1 hd2
        have HST := (show Hid _ from hst)
        have b1 : decide (zs[k] < 48) = false := decide_eq_false (by omega)
        have b2 : decide (57 < zs[k]) = false := decide_eq_false (by omega)
        clear hst hal hd
        go_wp2
        go_round
        case rel => exact ⟨k + 1, by omega, by go_num, HST.out⟩
        case measure => simp [intOf]; omega
    · have e : zs.all dig = true := by have hal' : (zs.take k).all dig = true := hal; rw [← hal', List.take_of_length_le (by rw [HL.out]; omega)]
      have HE := (show Hid _ from e)
      clear e hal
      go_wp2
      go_ret
      rw [HE.out]
      exact ⟨rfl, rfl⟩

/-- canonicalInt, at every slice of bytes. -/
theorem canon_any (ad : Option Addr) (n c : Nat) (zs : List Int) (sg : Bool) (w : World) (hv : View w ad n zs) (hcap : n ≤ c) (hm : n ≤ 1048577) :
    Calls Tryd.prog 14 #[.slice ad n c, .bool sg] w fun e w' => e = .returned (.bool (canon zs sg)) ∧ w' = w := by
  obtain ⟨hl, hv⟩ := hv
  cases zs with
  | nil =>
    have : n = 0 := by simpa using hl.symm
    subst this
    exact canon0 ad c sg w
  | cons z r =>
    have hn : n = r.length + 1 := by simpa using hl.symm
    subst hn
    rcases hv with h | ⟨b, off, rfl, hb, hc⟩
    · omega
    have h0 : w.cell? ⟨b, off, none⟩ = some (.int .u8 z) := by simpa using hc 0 (by omega)
    by_cases hs : sg = true ∧ z = 45
    · obtain ⟨rfl, rfl⟩ := hs
      cases r with
      | nil => exact sign_alone b off c hcap w h0
      | cons y r =>
        have h1 : w.cell? ⟨b, off + 1, none⟩ = some (.int .u8 y) := by simpa using hc 1 (by simp)
        by_cases hy : y = 48
        · subst hy
          have e : canon (45 :: 48 :: r) true = false := by simp [canon]
          rw [e]
          exact sign_zero b off _ c (by simp) hm hcap w h0 h1
        · have hb : (y == 48) = false := beq_eq_false_iff_ne.2 hy
          have e : canon (45 :: y :: r) true = (y :: r).all dig := by simp [canon, canonU, hb]
          rw [e]
          refine sign_loop b off (y :: r).length c (y :: r) w rfl (by simp) (by simp at hm ⊢; omega) hcap (by simpa using hy) h0 ?_
          intro i hi
          rw [show off + 1 + i = off + (i + 1) from by omega, hc (i + 1) (by simp at hi ⊢; omega)]
          simp
    · have e : canon (z :: r) sg = canonU (z :: r) := by
        simp only [canon]
        rw [if_neg (by simpa using hs)]
      rw [e]
      by_cases hz : z = 48 ∧ r ≠ []
      · obtain ⟨rfl, hr⟩ := hz
        have e2 : canonU (48 :: r) = false := by
          cases r with
          | nil => exact absurd rfl hr
          | cons => simp [canonU]
        rw [e2]
        have : 0 < r.length := List.length_pos_iff.2 hr
        exact canon_zero b off _ c 48 sg w (by omega) hm rfl h0
      · have e2 : canonU (z :: r) = (z :: r).all dig := by
          have : (z == 48 && !r.isEmpty) = false := by
            rw [Bool.eq_false_iff]
            intro h
            simp at h
            exact hz h
          simp only [canonU, this, Bool.not_false, Bool.true_and]
        rw [e2]
        refine canon_loop b off _ c (z :: r) sg w hl (by omega) hm (fun h h45 => hs ⟨h, by simpa using h45⟩) ?_ hc
        by_cases hr : r = []
        · left; simp [hr]
        · right; intro h; exact hz ⟨by simpa using h, hr⟩

/-- The pass-through. -/
theorem zzcanon_any (ad : Option Addr) (n c : Nat) (zs : List Int) (sg : Bool) (w : World) (hv : View w ad n zs) (hcap : n ≤ c) (hm : n ≤ 1048577) :
    Calls Tryd.prog 9 #[.slice ad n c, .bool sg] w fun e w' => e = .returned (.bool (canon zs sg)) ∧ w' = w := by
  go_enter Tryd.func9, Tryd.ntmps9
  go_wp2_with fail
  refine (canon_any ad n c zs sg _ hv hcap hm).mono ?_
  rintro e w' ⟨rfl, rfl⟩
  go_wp2
  go_ret
  exact ⟨rfl, rfl⟩

end Go.Proofs.Qxb6617859aDoor.Can
