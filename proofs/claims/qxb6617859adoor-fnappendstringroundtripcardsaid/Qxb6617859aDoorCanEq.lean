/- The walk of zzEqual. -/
import Derived.Test.Qxb6617859aDoorCanWalks
import Derived.Deep.QuietTactic
import Derived.BigQuiet
namespace Go.Proofs.Qxb6617859aDoor.Can
open Go.RowKit
set_option linter.unusedVariables false

theorem eq_len (ax ay : Option Addr) (n m c d : Nat) (w : World) (hn : n ≤ 1048578) (hm : m ≤ 1048578) (h : n ≠ m) :
    Calls Tryd.prog 8 #[.slice ax n c, .slice ay m d] w fun e w' => e = .returned (.bool false) ∧ ∃ q, w' = w.drewN q := by
  have hb : ((n : Int) != (m : Int)) = true := bne_iff_ne.2 (by omega)
  go_enter Tryd.func8, Tryd.ntmps8
  go_wp2
  go_ret
  exact ⟨rfl, 0, rfl⟩

theorem eq_nil (ax ay : Option Addr) (c d : Nat) (w : World) :
    Calls Tryd.prog 8 #[.slice ax (0 : Nat) c, .slice ay (0 : Nat) d] w fun e w' => e = .returned (.bool true) ∧ ∃ q, w' = w.drewN q := by
  go_enter Tryd.func8, Tryd.ntmps8
  go_wp2
  refine wp_loop_rounds 1 ?_
  rw [rounds_succ]
  go_wp2
  go_ret
  exact ⟨rfl, 0, rfl⟩

def EqTo (xs ys : List Int) (k : Nat) : Prop := xs.take k = ys.take k

theorem eqTo_step {xs ys : List Int} {k : Nat} (hx : k < xs.length) (hy : k < ys.length) (h : EqTo xs ys k) (e : xs[k] = ys[k]) : EqTo xs ys (k + 1) := by
  unfold EqTo at *
  rw [List.take_succ_eq_append_getElem hx, List.take_succ_eq_append_getElem hy, h, e]

theorem eqTo_stop {xs ys : List Int} {k : Nat} (hx : k < xs.length) (hy : k < ys.length) (e : xs[k] ≠ ys[k]) : decide (xs = ys) = false := by
  apply decide_eq_false
  rintro rfl
  exact e rfl

theorem eqTo_end {xs ys : List Int} {k : Nat} (hx : xs.length ≤ k) (hy : ys.length ≤ k) (h : EqTo xs ys k) : decide (xs = ys) = true := by
  unfold EqTo at h
  rw [List.take_of_length_le hx, List.take_of_length_le hy] at h
  exact decide_eq_true h

set_option maxHeartbeats 800000 in
theorem eq_loop (b off b2 off2 n c d : Nat) (xs ys : List Int) (w : World) (hn : 0 < n) (hm : n ≤ 1048578) (hx : xs.length = n) (hy : ys.length = n)
    (hc : ∀ i, i < n → w.cell? ⟨b, off + i, none⟩ = some (.int .u8 (xs.getD i 0))) (hd : ∀ i, i < n → w.cell? ⟨b2, off2 + i, none⟩ = some (.int .u8 (ys.getD i 0))) :
    Calls Tryd.prog 8 #[.slice (some ⟨b, off, none⟩) n c, .slice (some ⟨b2, off2, none⟩) n d] w fun e w' => e = .returned (.bool (decide (xs = ys))) ∧ ∃ q, w' = w.drewN q := by
  have R : ∀ k : Nat, k < n → ∃ (h : k < xs.length) (h2 : k < ys.length), w.cell? ⟨b, off + k, none⟩ = some (.int .u8 xs[k]) ∧ w.cell? ⟨b2, off2 + k, none⟩ = some (.int .u8 ys[k]) := by
    intro k hk
    have hlt : k < xs.length := by omega
    have hlt2 : k < ys.length := by omega
    refine ⟨hlt, hlt2, ?_, ?_⟩
    · have := hc k hk
      rw [List.getD_eq_getElem?_getD, List.getElem?_eq_getElem hlt] at this
      exact this
    · have := hd k hk
      rw [List.getD_eq_getElem?_getD, List.getElem?_eq_getElem hlt2] at this
      exact this
  have HR := (show Hid _ from R)
  have HX := (show Hid _ from hx)
  have HY := (show Hid _ from hy)
  clear R hc hd hx hy
  go_enter Tryd.func8, Tryd.ntmps8
  go_wp2
  go_loopw [5] (fun i wr => ∃ k q : Nat, k ≤ n ∧ i = .int .i64 k ∧ EqTo xs ys k ∧ wr = w.drewN q) (fun i _ => n - (intOf i).toNat)
  case atStart => exact ⟨0, 0, Nat.zero_le _, rfl, rfl, rfl⟩
  case round =>
    obtain ⟨k, q, hk, rfl, hal, rfl⟩ := hrel
    by_cases hlt : k < n
    · obtain ⟨hkx, hky, hcx, hcy⟩ := HR.out k hlt
      by_cases hd : xs[k] = ys[k]
      · have HST := (show Hid _ from eqTo_step hkx hky hal hd)
        have hb : (xs[k] != ys[k]) = false := by simp [hd]
        clear hal hd
        go_wp2
        go_quiet (fail)
        go_wp2
        go_roundw
        case rel => exact ⟨k + 1, _, by omega, by go_num, HST.out, rfl⟩
        case measure => simp [intOf]; omega
      · have HST := (show Hid _ from eqTo_stop hkx hky hd)
        have hb : (xs[k] != ys[k]) = true := by simp [hd]
        clear hal hd
        go_wp2
        go_quiet (fail)
        go_wp2
        go_ret
        rw [HST.out]
        exact ⟨rfl, _, World.drewN_drewN _ _ _⟩
    · have HE := (show Hid _ from eqTo_end (by rw [HX.out]; omega) (by rw [HY.out]; omega) hal)
      clear hal
      go_wp2
      go_ret
      rw [HE.out]
      exact ⟨rfl, q, rfl⟩

/-- zzEqual, at every two slices of bytes. -/
theorem eq_any (ax ay : Option Addr) (n m c d : Nat) (xs ys : List Int) (w : World) (hx : View w ax n xs) (hy : View w ay m ys) (hn : n ≤ 1048578) (hm : m ≤ 1048578) :
    Calls Tryd.prog 8 #[.slice ax n c, .slice ay m d] w fun e w' => e = .returned (.bool (decide (xs = ys))) ∧ ∃ q, w' = w.drewN q := by
  obtain ⟨lx, vx⟩ := hx
  obtain ⟨ly, vy⟩ := hy
  by_cases h : n = m
  · subst h
    rcases vx with rfl | ⟨b, off, rfl, _, hc⟩
    · have e1 : xs = [] := List.length_eq_zero_iff.1 lx
      have e2 : ys = [] := List.length_eq_zero_iff.1 ly
      rw [e1, e2]
      exact eq_nil ax ay c d w
    · rcases vy with rfl | ⟨b2, off2, rfl, _, hd⟩
      · have e1 : xs = [] := List.length_eq_zero_iff.1 lx
        have e2 : ys = [] := List.length_eq_zero_iff.1 ly
        rw [e1, e2]
        exact eq_nil _ ay c d w
      · by_cases h0 : n = 0
        · subst h0
          have e1 : xs = [] := List.length_eq_zero_iff.1 lx
          have e2 : ys = [] := List.length_eq_zero_iff.1 ly
          rw [e1, e2]
          exact eq_nil _ _ c d w
        · exact eq_loop b off b2 off2 n c d xs ys w (by omega) hn lx ly hc hd
  · have e : decide (xs = ys) = false := decide_eq_false (fun e => h (by rw [← lx, ← ly, e]))
    rw [e]
    exact eq_len ax ay n m c d w hn hm h

end Go.Proofs.Qxb6617859aDoor.Can
