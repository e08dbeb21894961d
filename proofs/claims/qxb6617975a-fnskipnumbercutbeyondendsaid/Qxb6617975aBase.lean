/- How a slice of bytes is seen; the size tests; the small tests on a byte. -/
import Derived.Test.Qxb6617975aRows
import Derived.Test.Qxb6617975aColPlain
import Derived.WalkKit
import Derived.ProofKit
import Derived.Below
import Derived.WalkSpells
namespace Go.Proofs.Qxb6617975a.Col
open Go.RowKit
set_option linter.unusedVariables false

theorem hid {p : Prop} (h : p) : Hid p := h
theorem info5 : (Try.prog.info? 5).map (fun i => (i.zero, i.size, i.bytes)) = some (some (.int .u8 0), 1, 1) := by kernel_rfl

/-- The row of cells of the numbers zs. -/
def cells (zs : List Int) : List Value := zs.map (Value.int .u8)

/-- A slice of n bytes whose numbers are zs: empty, or its cells lie in a row. -/
def View (w : World) (ad : Option Addr) (n : Nat) (zs : List Int) : Prop :=
  zs.length = n ∧ (n = 0 ∨ ∃ b off, ad = some ⟨b, off, none⟩ ∧ b < w.heap.size ∧ ∀ i, i < n → w.cell? ⟨b, off + i, none⟩ = some (.int .u8 (zs.getD i 0)))

theorem View.at {w : World} {ad : Option Addr} {n : Nat} {zs : List Int} (h : View w ad n zs) (k : Nat) (hk : k < n) : ∃ b off, ad = some ⟨b, off, none⟩ ∧ b < w.heap.size ∧ ∃ h : k < zs.length, w.cell? ⟨b, off + k, none⟩ = some (.int .u8 zs[k]) := by
  rcases h.2 with h0 | ⟨b, off, e, hb, hc⟩
  · omega
  · have hlt : k < zs.length := by have := h.1; omega
    exact ⟨b, off, e, hb, hlt, by rw [hc k hk, List.getD_eq_getElem?_getD, List.getElem?_eq_getElem hlt]; rfl⟩

theorem owned_view {w : World} {base g n cap : Nat} {xs : List Int} (h : w.ownsRow base 5 1 (.slice (some ⟨g, 0, none⟩) n cap) n (cells xs)) : View w (some ⟨g, 0, none⟩) n xs := by
  have hl : xs.length = n := by have := h.1; simp [cells] at this; exact this
  refine ⟨hl, .inr ⟨g, 0, rfl, ?_, fun i hi => ?_⟩⟩
  · rcases h.2 with ⟨h', _⟩ | ⟨g', cap', cur, h', _, hg, _⟩
    · simp at h'
    · simp only [Value.slice.injEq, Option.some.injEq, Addr.mk.injEq, and_true, true_and] at h'
      obtain ⟨rfl, rfl⟩ := h'
      by_cases hlt : g < w.heap.size
      · exact hlt
      · rw [Array.getElem?_eq_none (by omega)] at hg
        cases hg
  · rw [Nat.zero_add, h.cellAt i (by omega)]
    have hi' : i < xs.length := by omega
    simp [cells, hi']

/-- A block that is known whole is seen. -/
theorem block_view {w : World} {g : Nat} {xs : List Int} {t : TypeId} (h : w.heap[g]? = some (.cells (cells xs).toArray t (0, 0))) : View w (some ⟨g, 0, none⟩) xs.length xs := by
  refine ⟨rfl, .inr ⟨g, 0, rfl, ?_, fun i hi => ?_⟩⟩
  · by_cases hlt : g < w.heap.size
    · exact hlt
    · rw [Array.getElem?_eq_none (by omega)] at h
      cases h
  · rw [Nat.zero_add, cell_of_row w g i _ t (0, 0) h]
    simp [cells, hi]

theorem view_below {w w' : World} {ad : Option Addr} {n : Nat} {zs : List Int} (h : View w ad n zs) (hb : Below w.heap.size w w') : View w' ad n zs := by
  refine ⟨h.1, ?_⟩
  rcases h.2 with h | ⟨b, off, e, hlt, hc⟩
  · exact .inl h
  · exact .inr ⟨b, off, e, Nat.lt_of_lt_of_le hlt hb.size, fun i hi => by rw [hb.cell (by exact hlt)]; exact hc i hi⟩

/-- A slice that came in, as the frame of the row hands it over, is seen as its first numbers. -/
theorem view_of_row {w : World} {x : Addr} {n cap : Nat} {zs : List Int} (hl : n ≤ cap) (hz : zs.length = cap) (hc : ∀ i, i < zs.length → w.cell? (x.add i) = some (.int .u8 (zs.getD i 0))) : View w (some x) n (zs.take n) := by
  refine ⟨by simp; omega, ?_⟩
  by_cases h0 : n = 0
  · exact .inl h0
  · right
    obtain ⟨b, off, spot⟩ := x
    have hc0 := hc 0 (by omega)
    have hspot : spot = none := by simpa [Addr.add] using World.cell?_spot hc0
    subst hspot
    refine ⟨b, off, rfl, ?_, fun i hi => ?_⟩
    · have h1 : w.cell? ⟨b, off, none⟩ = some (.int .u8 (zs.getD 0 0)) := by simpa [Addr.add] using hc0
      by_cases hlt : b < w.heap.size
      · exact hlt
      · exfalso
        rw [World.cell?] at h1
        simp [Array.getElem?_eq_none (show w.heap.size ≤ b from by omega)] at h1
    · have h1 := hc i (by omega)
      have e : (zs.take n).getD i 0 = zs.getD i 0 := by
        rw [List.getD_eq_getElem?_getD, List.getD_eq_getElem?_getD, List.getElem?_take, if_pos hi]
      rw [e, ← Go.WideShapes.add_plain]
      exact h1

theorem notNil (w : World) (a : Option Addr) (n c n' c' : Nat) : (binOp .neq 22 (.slice a n c) (.slice none n' c')).run Try.prog w = .ok (.bool (!a.isNone)) w :=
  run_neq_slice_nil_any w _ _ a n c n' c' Try.underlying22

theorem blank_any (z : Int) (w : World) : Calls Try.prog 14 #[.int .u8 z] w fun e w' => e = .returned (.bool (blank z)) ∧ w' = w := by
  have hb : blank z = (z == 32 || z == 9 || z == 10 || z == 13) := rfl
  rw [hb]
  clear hb
  cases h1 : (z == 32) <;> cases h2 : (z == 9) <;> cases h3 : (z == 10) <;> cases h4 : (z == 13)
  all_goals
    go_enter Try.func14, Try.ntmps14
    go_wp2
    go_ret
    exact ⟨rfl, rfl⟩

theorem bytes7 (ad : Option Addr) (n c : Nat) (i : Int) (w : World) (hn : n ≤ 9223372036854775807) :
    Calls Try.prog 7 #[.slice ad n c, .int .i64 i] w fun e w' => e = .returned (.bool (decide (n ≤ 1048576))) ∧ w' = w := by
  by_cases h : n ≤ 1048576
  · rw [decide_eq_true h]
    go_enter Try.func7, Try.ntmps7
    go_wp2
    go_ret
    exact ⟨rfl, rfl⟩
  · rw [decide_eq_false h]
    go_enter Try.func7, Try.ntmps7
    go_wp2
    go_ret
    exact ⟨rfl, rfl⟩

theorem bytes10 (ad : Option Addr) (n c : Nat) (i k : Int) (w : World) (hn : n ≤ 9223372036854775807) :
    Calls Try.prog 10 #[.slice ad n c, .int .i64 i, .int .i64 k] w fun e w' => e = .returned (.bool (decide (n ≤ 1048576))) ∧ w' = w := by
  by_cases h : n ≤ 1048576
  · rw [decide_eq_true h]
    go_enter Try.func10, Try.ntmps10
    go_wp2
    go_ret
    exact ⟨rfl, rfl⟩
  · rw [decide_eq_false h]
    go_enter Try.func10, Try.ntmps10
    go_wp2
    go_ret
    exact ⟨rfl, rfl⟩

theorem bytes11 (ad : Option Addr) (n c : Nat) (i k : Int) (w : World) (hn : n ≤ 9223372036854775807) :
    Calls Try.prog 11 #[.slice ad n c, .int .i64 i, .int .i64 k] w fun e w' => e = .returned (.bool (decide (n ≤ 1048576))) ∧ w' = w := by
  by_cases h : n ≤ 1048576
  · rw [decide_eq_true h]
    go_enter Try.func11, Try.ntmps11
    go_wp2
    go_ret
    exact ⟨rfl, rfl⟩
  · rw [decide_eq_false h]
    go_enter Try.func11, Try.ntmps11
    go_wp2
    go_ret
    exact ⟨rfl, rfl⟩

theorem bytes15 (ad : Option Addr) (n c : Nat) (i k z : Int) (w : World) (hn : n ≤ 9223372036854775807) :
    Calls Try.prog 15 #[.slice ad n c, .int .i64 i, .int .i64 k, .int .u8 z] w fun e w' => e = .returned (.bool (decide (n ≤ 1048576))) ∧ w' = w := by
  by_cases h : n ≤ 1048576
  · rw [decide_eq_true h]
    go_enter Try.func15, Try.ntmps15
    go_wp2
    go_ret
    exact ⟨rfl, rfl⟩
  · rw [decide_eq_false h]
    go_enter Try.func15, Try.ntmps15
    go_wp2
    go_ret
    exact ⟨rfl, rfl⟩

end Go.Proofs.Qxb6617975a.Col
