/- The walk of zzClone. -/
import Derived.Test.Qxb6617859aDoorCanWalks
import Derived.WalkSpells
namespace Go.Proofs.Qxb6617859aDoor.Can
open Go.RowKit
set_option linter.unusedVariables false

theorem info5 : (Tryd.prog.info? 5).map (fun i => (i.zero, i.size, i.bytes)) = some (some (.int .u8 0), 1, 1) := by kernel_rfl

/-- The row of cells of the numbers zs. -/
def cells (zs : List Int) : List Value := zs.map (Value.int .u8)

theorem isNil (w : World) (a : Option Addr) (n c n' c' : Nat) : (binOp .eql 22 (.slice a n c) (.slice none n' c')).run Tryd.prog w = .ok (.bool a.isNone) w :=
  Lib.run_eql_slice_nil w _ _ a n c n' c' Tryd.underlying22

theorem clone_nil (w : World) : Calls Tryd.prog 6 #[.slice none (0 : Nat) (0 : Nat)] w fun e w' => e = .returned (.slice none (0 : Nat) (0 : Nat)) ∧ w' = w := by
  have q22 := isNil
  go_enter Tryd.func6, Tryd.ntmps6
  go_wp2
  go_ret
  exact ⟨rfl, rfl⟩

/-- What has been copied when k are done: the rest reads zero. -/
def cpy (zs : List Int) (n k : Nat) : List Int := zs.take k ++ List.replicate (n - k) 0

theorem cpy_zero (zs : List Int) (n : Nat) : cells (cpy zs n 0) = List.replicate n (.int .u8 0) := by simp [cells, cpy]
theorem cpy_end (zs : List Int) (n : Nat) (h : zs.length = n) : cpy zs n n = zs := by subst h; simp [cpy]
theorem cpy_step (zs : List Int) (n k : Nat) (h : zs.length = n) (hk : k < zs.length) : (cells (cpy zs n k)).set k (.int .u8 zs[k]) = cells (cpy zs n (k + 1)) := by
  unfold cells cpy
  rw [← List.map_set]
  congr 1
  rw [List.take_succ_eq_append_getElem hk]
  rw [List.set_append_right _ _ (by simp; omega)]
  simp only [List.length_take]
  rw [show min k zs.length = k from by omega, show k - k = 0 from by omega, show n - k = (n - (k + 1)) + 1 from by omega, List.replicate_succ]
  simp only [List.set_cons_zero, List.append_assoc, List.cons_append, List.nil_append]

set_option maxHeartbeats 800000 in
theorem clone_some (b off n c : Nat) (ad : Option Addr) (zs : List Int) (w : World) (hl : zs.length = n) (hm : n ≤ 1048576) (hne : ad ≠ none)
    (hc : n = 0 ∨ (ad = some ⟨b, off, none⟩ ∧ b < w.heap.size ∧ ∀ i, i < n → w.cell? ⟨b, off + i, none⟩ = some (.int .u8 (zs.getD i 0)))) :
    Calls Tryd.prog 6 #[.slice ad n c] w fun e w' => e = .returned (.slice (some ⟨w.heap.size, 0, none⟩) n n) ∧
      w'.ownsRow w.heap.size 5 1 (.slice (some ⟨w.heap.size, 0, none⟩) n n) n (cells zs) ∧ Below w.heap.size w w' := by
  obtain ⟨i0, hi, hz0, hz1, hz2⟩ := info_parts info5
  obtain ⟨a, rfl⟩ := Option.ne_none_iff_exists'.1 hne
  have HL := (show Hid _ from hl)
  have HC := (show Hid _ from hc)
  clear hl hc hne
  have q22 := isNil
  go_enter Tryd.func6, Tryd.ntmps6
  go_wp2_with (at_make; refine wpList_make_full _ rfl _ _ 22 rfl w.heap.size 5 i0 (.int .u8 0) 1 Tryd.underlying22 hi hz0 hz1 _ _ _ _ n rfl rfl rfl rfl (by rw [hz2]; omega) (by unfold maxLen; omega) (Nat.le_refl _) ?_)
  intro w0 hown0 hgrow0
  have O0 : w0.ownsRow w.heap.size 5 1 (.slice (some ⟨w.heap.size, 0, none⟩) n n) n (cells (cpy zs n 0)) := by
    rw [cpy_zero]
    simpa [toList_madeCells_one, Value.cells] using hown0
  clear hown0
  go_wp2
  go_loopw [4] (fun i wr => ∃ k : Nat, k ≤ n ∧ i = .int .i64 k ∧ wr.ownsRow w.heap.size 5 1 (.slice (some ⟨w.heap.size, 0, none⟩) n n) n (cells (cpy zs n k)) ∧ Below w.heap.size w wr) (fun i _ => n - (intOf i).toNat)
  case atStart => exact ⟨0, Nat.zero_le _, rfl, O0, (Below.refl _ _).grown hgrow0 (Nat.le_refl _) (fun k h => by cases h)⟩
  case round =>
    obtain ⟨k, hk, rfl, hown, hbel⟩ := hrel
    by_cases hlt : k < n
    · rcases HC.out with h0 | ⟨e, hb, hcell⟩
      · omega
      obtain rfl := Option.some.inj e
      have hkl : k < zs.length := by rw [HL.out]; exact hlt
      have hcx : wr.cell? ⟨b, off + k, none⟩ = some (.int .u8 zs[k]) := by
        rw [hbel.cell (by exact hb), hcell k hlt, List.getD_eq_getElem?_getD, List.getElem?_eq_getElem hkl]; rfl
      have hfr : wr.frozen? ⟨w.heap.size, k, none⟩ = false := hown.frozenAt k
      obtain ⟨old, hold⟩ : ∃ old, wr.cell? ⟨w.heap.size, k, none⟩ = some old := by
        rw [hown.cellAt k (by omega)]
        exact ⟨_, List.getElem?_eq_getElem (by have := hown.1; omega)⟩
      have hst := (hown.stored k (.int .u8 zs[k])).1
      rw [cpy_step zs n k HL.out hkl] at hst
      have HST := (show Hid _ from hst)
      clear hst e hcell hown
      go_wp2
      go_roundw
      case rel => exact ⟨k + 1, by omega, by go_num, HST.out, hbel.setCell (Nat.le_refl _) _⟩
      case measure => simp [intOf]; omega
    · have hkn : k = n := by omega
      subst hkn
      rw [cpy_end _ _ HL.out] at hown
      go_wp2
      go_ret
      exact ⟨rfl, hown, hbel⟩

end Go.Proofs.Qxb6617859aDoor.Can
