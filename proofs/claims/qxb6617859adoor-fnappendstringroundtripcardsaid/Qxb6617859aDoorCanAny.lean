/- zzClone at every slice; how an argument is seen. -/
import Derived.Test.Qxb6617859aDoorCanClone
import Derived.Test.Qxb6617859aDoorCanEq
import Derived.Test.Qxb6617859aDoorCanSign
namespace Go.Proofs.Qxb6617859aDoor.Can
open Go.RowKit
set_option linter.unusedVariables false

theorem owned_view {w : World} {base g n cap : Nat} {xs : List Int} (h : w.ownsRow base 5 1 (.slice (some ⟨g, 0, none⟩) n cap) n (cells xs)) : View w (some ⟨g, 0, none⟩) n xs := by
  have hl : xs.length = n := by have := h.1; simp [cells] at this; exact this
  refine ⟨hl, .inr ⟨g, 0, rfl, ?_, fun i hi => ?_⟩⟩
  · rcases h.2 with ⟨h', _⟩ | ⟨g', cap', cur, h', _, hg, _⟩
    · simp at h'
    · simp only [Value.slice.injEq, Option.some.injEq, Addr.mk.injEq, and_true, true_and] at h'
      obtain ⟨rfl, rfl⟩ := h'
      by_cases hlt : g < w.heap.size
      · exact hlt
      · rw [Array.getElem?_eq_none (by omega)] at hg
        cases hg
  · rw [Nat.zero_add, h.cellAt i (by omega)]
    have hi' : i < xs.length := by omega
    simp [cells, hi']

theorem view_below {w w' : World} {ad : Option Addr} {n : Nat} {zs : List Int} (h : View w ad n zs) (hb : Below w.heap.size w w') : View w' ad n zs := by
  refine ⟨h.1, ?_⟩
  rcases h.2 with h | ⟨b, off, e, hlt, hc⟩
  · exact .inl h
  · exact .inr ⟨b, off, e, Nat.lt_of_lt_of_le hlt hb.size, fun i hi => by rw [hb.cell (by exact hlt)]; exact hc i hi⟩

theorem clone_any (ad : Option Addr) (n c : Nat) (zs : List Int) (w : World) (hv : View w ad n zs) (hnil : ad = none → n = 0 ∧ c = 0) (hm : n ≤ 1048576) :
    Calls Tryd.prog 6 #[.slice ad n c] w fun e w' => ∃ ad' c', e = .returned (.slice ad' n c') ∧ n ≤ c' ∧ View w' ad' n zs ∧ (ad' = none → n = 0 ∧ c' = 0) ∧ Below w.heap.size w w' := by
  cases ad with
  | none =>
    obtain ⟨rfl, rfl⟩ := hnil rfl
    exact (clone_nil w).mono fun e w' ⟨h1, h2⟩ => ⟨none, 0, h1, Nat.le_refl _, h2 ▸ hv, fun _ => ⟨rfl, rfl⟩, h2 ▸ Below.refl _ _⟩
  | some x =>
    have key : ∀ b off, (n = 0 ∨ (some x = some ⟨b, off, none⟩ ∧ b < w.heap.size ∧ ∀ i, i < n → w.cell? ⟨b, off + i, none⟩ = some (.int .u8 (zs.getD i 0)))) →
        Calls Tryd.prog 6 #[.slice (some x) n c] w fun e w' => ∃ ad' c', e = .returned (.slice ad' n c') ∧ n ≤ c' ∧ View w' ad' n zs ∧ (ad' = none → n = 0 ∧ c' = 0) ∧ Below w.heap.size w w' :=
      fun b off h => (clone_some b off n c (some x) zs w hv.1 hm (by simp) h).mono fun e w' ⟨h1, h2, h3⟩ => ⟨_, n, h1, Nat.le_refl _, owned_view h2, (fun h => by cases h), h3⟩
    rcases hv.2 with h | ⟨b, off, e, hb, hc⟩
    · exact key 0 0 (.inl h)
    · exact key b off (.inr ⟨e, hb, hc⟩)

/-- A slice that came in, as the frame of the row hands it over, is seen as its first numbers. -/
theorem view_of_row {w : World} {x : Addr} {n cap : Nat} {zs : List Int} (hl : n ≤ cap) (hz : zs.length = cap) (hc : ∀ i, i < zs.length → w.cell? (x.add i) = some (.int .u8 (zs.getD i 0))) : View w (some x) n (zs.take n) := by
  refine ⟨by simp; omega, ?_⟩
  by_cases h0 : n = 0
  · exact .inl h0
  · right
    obtain ⟨b, off, spot⟩ := x
    have hc0 := hc 0 (by omega)
    have hspot : spot = none := by simpa [Addr.add] using World.cell?_spot hc0
    subst hspot
    refine ⟨b, off, rfl, ?_, fun i hi => ?_⟩
    · have h1 : w.cell? ⟨b, off, none⟩ = some (.int .u8 (zs.getD 0 0)) := by simpa [Addr.add] using hc0
      by_cases hlt : b < w.heap.size
      · exact hlt
      · exfalso
        rw [World.cell?] at h1
        simp [Array.getElem?_eq_none (show w.heap.size ≤ b from by omega)] at h1
    · have h1 := hc i (by omega)
      have e : (zs.take n).getD i 0 = zs.getD i 0 := by
        rw [List.getD_eq_getElem?_getD, List.getD_eq_getElem?_getD, List.getElem?_take, if_pos hi]
      rw [e, ← Go.WideShapes.add_plain]
      exact h1

end Go.Proofs.Qxb6617859aDoor.Can
