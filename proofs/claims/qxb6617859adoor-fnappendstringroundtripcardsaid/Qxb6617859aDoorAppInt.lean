/- The walk of appendInt. -/
import Derived.Test.Qxb6617859aDoorParse
import Derived.Test.Qxb6617859aDoorStrconv
import Derived.Lib.ItoaLen
import Derived.Lib.AppendIntMem
namespace Go.Proofs.Qxb6617859aDoor.Can
open Go.RowKit
set_option linter.unusedVariables false

theorem byteCells_nums (l : List UInt8) : Lib.byteCells l = cells (nums l) := by simp [Lib.byteCells, cells, nums]

theorem cells_append (a b : List Int) : cells (a ++ b) = cells a ++ cells b := by simp [cells]

/-- What is owned, and not nothing, lies at the head of a row. -/
theorem owned_shape {w : World} {base n : Nat} {v : Value} {xs : List Int} (h : w.ownsRow base 5 1 v n (cells xs)) (hn : 0 < n) : ∃ g cap, v = .slice (some ⟨g, 0, none⟩) n cap ∧ n ≤ cap ∧ cap ≤ maxLen ∧ View w (some ⟨g, 0, none⟩) n xs := by
  rcases h.2 with ⟨_, h0⟩ | ⟨g, cap, cur, rfl, _, _, hc, hm, _⟩
  · omega
  · exact ⟨g, cap, rfl, hc, hm, owned_view h⟩

/-- The cells of a view, in the world with a new block. -/
theorem view_olds {w : World} {ad : Option Addr} {n : Nat} {zs : List Int} (hv : View w ad n zs) (o : Obj) : ∀ x, ad = some x → ∀ (j : Nat) (u : Value), (cells zs)[j]? = some u → (w.alloc o).cell? (x.add j) = some u := by
  intro x hx j u hj
  have hjl : j < zs.length := by
    have := (List.getElem?_eq_some_iff.1 hj).1
    simpa [cells] using this
  rcases hv.2 with h0 | ⟨b, off, e, hb, hc⟩
  · have := hv.1; omega
  · rw [hx] at e
    obtain rfl := Option.some.inj e
    rw [Go.WideShapes.add_plain]
    have h1 : (w.alloc o).cell? ⟨b, off + j, none⟩ = w.cell? ⟨b, off + j, none⟩ := ((Below.refl w.heap.size w).alloc (Nat.le_refl _) o).cell (by exact hb)
    rw [h1, hc j (by have := hv.1; omega)]
    simp only [cells, List.getElem?_map, List.getElem?_eq_getElem hjl, Option.map_some, Option.some.injEq] at hj
    rw [← hj, List.getD_eq_getElem?_getD, List.getElem?_eq_getElem hjl]
    rfl

theorem ownsRow_lower {w : World} {base base' : Nat} {e : TypeId} {size : Nat} {v : Value} {n : Nat} {xs : List Value} (h : w.ownsRow base e size v n xs) (hb : base' ≤ base) : w.ownsRow base' e size v n xs := by
  obtain ⟨h1, h2⟩ := h
  refine ⟨h1, ?_⟩
  rcases h2 with h2 | ⟨g, cap, cur, hv, hg, r⟩
  · exact .inl h2
  · exact .inr ⟨g, cap, cur, hv, Nat.le_trans hb hg, r⟩

set_option maxHeartbeats 3200000 in
theorem appendInt_any (ad : Option Addr) (n : Nat) (zs : List Int) (i : Int) (w : World) (hv : View w ad n zs) (hnil : ad = none → n = 0) (hm : n ≤ 1048576) (h0 : -9223372036854775808 ≤ i) (h1 : i ≤ 9223372036854775807)
    (htab : Lib.TabIs Tryd.prog w Tryd.tabName .u64 Lib.pow10Tab) :
    Calls Tryd.prog 13 #[.slice ad n n, .int .i64 i] w fun e w' => ∃ g cap, e = .returned (.slice (some ⟨g, 0, none⟩) (n + 1 + (Lib.itoa i).length + 1) cap) ∧ n + 1 + (Lib.itoa i).length + 1 ≤ cap ∧ cap ≤ maxLen ∧
      View w' (some ⟨g, 0, none⟩) (n + 1 + (Lib.itoa i).length + 1) (zs ++ [105] ++ nums (Lib.itoa i) ++ [101]) ∧ Below w.heap.size w w' := by
  obtain ⟨i0, hi, hz0, hz1, hz2⟩ := info_parts info5
  have hT := hid (Lib.tabBelow_of_tabIs htab)
  have la := Lib.itoa_length_le i h0 h1
  have HV := hid hv
  have HN := hid hnil
  clear hv hnil htab
  go_enter Tryd.func13, Tryd.ntmps13
  go_wp2_with (at_builtin; refine wpList_append_grows _ rfl (.tmp 5) (.tmp 6) 22 rfl 5 i0 (.int .u8 0) 1 1 Tryd.underlying22 hi hz0 hz1 hz2 rfl (by decide) ad n n (cells zs) rfl (fun h => ⟨HN.out h, HN.out h⟩) (by have := HV.out.1; simp [cells, this]) (view_olds HV.out _) ⟨w.heap.size, 0, none⟩ 1 1 [.int .u8 105] rfl rfl (by intro t u ht; match t, ht with | 0, ht => simp at ht; subst ht; simp [Addr.add]) (by intro u hu; simp at hu; subst hu; rfl) (by omega) (by unfold maxLen; omega) (by omega) ?_; intro v1 w1 hown1 hgrow1; refine Hid.out ?_)
  refine hid ?_
  have B1 : Below w.heap.size w w1 := ((Below.refl _ _).alloc (Nat.le_refl _) _).grown hgrow1 (by simp) (fun k h => by cases h)
  have hsz1 := hgrow1.size
  simp only [World.size_alloc] at hown1 hsz1
  have hown1' : w1.ownsRow w.heap.size 5 1 v1 (n + 1) (cells (zs ++ [105])) := by
    rw [cells_append]
    exact ownsRow_lower hown1 (by omega)
  clear hown1 hgrow1
  go_wp2_with (go_at_call 17; refine (Tryd.appendInt_10 w.heap.size (n + 1) i h0 h1 v1 _ w1 hown1' (by omega) (by omega) (hT.out.on B1)).mono ?_; rintro e w2 ⟨v2, rfl, hown2, hnx2, -⟩; refine Hid.out ?_)
  refine hid ?_
  have B2 := B1.trans hnx2
  have hsz2 := B2.size
  rw [byteCells_nums, ← cells_append] at hown2
  clear hown1'
  go_wp2_with (at_builtin; refine wpList_append_own _ rfl (.tmp 11) (.tmp 12) 22 rfl w.heap.size 5 i0 (.int .u8 0) 1 1 Tryd.underlying22 hi hz0 hz1 hz2 rfl (by decide) _ _ _ rfl (hown2.alloc _) ⟨w2.heap.size, 0, none⟩ 1 1 [Value.int .u8 101] rfl rfl (by intro t u ht; match t, ht with | 0, ht => simp at ht; subst ht; simp [Addr.add]) (by intro u hu; simp at hu; subst hu; rfl) (by unfold maxLen; omega) (by omega) (by simp; omega) ?_; intro v3 w3 hown3 hgrow3 _; refine Hid.out ?_)
  refine hid ?_
  have B3 : Below w.heap.size w w3 := (B2.alloc hsz2 _).grown hgrow3 (by simp; omega) (fun k hk => (hown2.lt k hk).1)
  have e3 : cells (zs ++ [105] ++ nums (Lib.itoa i)) ++ [Value.int .u8 101] = cells (zs ++ [105] ++ nums (Lib.itoa i) ++ [101]) := (cells_append _ [101]).symm
  rw [e3] at hown3
  obtain ⟨g, cap, rfl, hcap, hmx, hv3⟩ := owned_shape hown3 (by omega)
  have HV3 := hid hv3
  clear hown3 hown2 hgrow3 hv3 e3
  go_wp2
  go_ret
  exact ⟨g, cap, rfl, hcap, hmx, HV3.out, B3⟩

/-- The pass-through. -/
theorem zzAppendInt_any (ad : Option Addr) (n : Nat) (zs : List Int) (i : Int) (w : World) (hv : View w ad n zs) (hnil : ad = none → n = 0) (hm : n ≤ 1048576) (h0 : -9223372036854775808 ≤ i) (h1 : i ≤ 9223372036854775807)
    (htab : Lib.TabIs Tryd.prog w Tryd.tabName .u64 Lib.pow10Tab) :
    Calls Tryd.prog 7 #[.slice ad n n, .int .i64 i] w fun e w' => ∃ g cap, e = .returned (.slice (some ⟨g, 0, none⟩) (n + 1 + (Lib.itoa i).length + 1) cap) ∧ n + 1 + (Lib.itoa i).length + 1 ≤ cap ∧ cap ≤ maxLen ∧
      View w' (some ⟨g, 0, none⟩) (n + 1 + (Lib.itoa i).length + 1) (zs ++ [105] ++ nums (Lib.itoa i) ++ [101]) ∧ Below w.heap.size w w' := by
  have HV := hid hv
  have HN := hid hnil
  have HT := hid htab
  clear hv hnil htab
  go_enter Tryd.func7, Tryd.ntmps7
  go_wp2_with fail
  refine (appendInt_any ad n zs i _ HV.out HN.out hm h0 h1 HT.out).mono ?_
  rintro e w' ⟨g, cap, rfl, hcap, hmx, hv', hb⟩
  have HV' := hid hv'
  clear hv'
  go_wp2
  go_ret
  exact ⟨g, cap, rfl, hcap, hmx, HV'.out, hb⟩

/-- zzClone at every slice: what comes back has no room to spare. -/
theorem clone_full (ad : Option Addr) (n c : Nat) (zs : List Int) (w : World) (hv : View w ad n zs) (hnil : ad = none → n = 0 ∧ c = 0) (hm : n ≤ 1048576) :
    Calls Tryd.prog 6 #[.slice ad n c] w fun e w' => ∃ ad', e = .returned (.slice ad' n n) ∧ View w' ad' n zs ∧ (ad' = none → n = 0) ∧ Below w.heap.size w w' := by
  cases ad with
  | none =>
    obtain ⟨rfl, rfl⟩ := hnil rfl
    exact (clone_nil w).mono fun e w' ⟨h1, h2⟩ => ⟨none, h1, h2 ▸ hv, fun _ => rfl, h2 ▸ Below.refl _ _⟩
  | some x =>
    have key : ∀ b off, (n = 0 ∨ (some x = some ⟨b, off, none⟩ ∧ b < w.heap.size ∧ ∀ i, i < n → w.cell? ⟨b, off + i, none⟩ = some (.int .u8 (zs.getD i 0)))) →
        Calls Tryd.prog 6 #[.slice (some x) n c] w fun e w' => ∃ ad', e = .returned (.slice ad' n n) ∧ View w' ad' n zs ∧ (ad' = none → n = 0) ∧ Below w.heap.size w w' :=
      fun b off h => (clone_some b off n c (some x) zs w hv.1 hm (by simp) h).mono fun e w' ⟨h1, h2, h3⟩ => ⟨_, h1, owned_view h2, (fun h => by cases h), h3⟩
    rcases hv.2 with h | ⟨b, off, e, hb, hc⟩
    · exact key 0 0 (.inl h)
    · exact key b off (.inr ⟨e, hb, hc⟩)

/-- A part of what is seen. -/
theorem view_part {w : World} {g off n : Nat} {xs ys zs : List Int} {m : Nat} (hv : View w (some ⟨g, 0, none⟩) n (xs ++ ys ++ zs)) (hx : xs.length = off) (hy : ys.length = m) : View w (some ⟨g, off, none⟩) m ys := by
  refine ⟨hy, ?_⟩
  by_cases h0 : m = 0
  · exact .inl h0
  rcases hv.2 with h | ⟨b, o, e, hb, hc⟩
  · have := hv.1; simp at this; omega
  · obtain ⟨rfl, rfl⟩ : g = b ∧ 0 = o := by
      have := Option.some.inj e
      exact ⟨congrArg Addr.block this, congrArg Addr.off this⟩
    refine .inr ⟨g, off, rfl, hb, fun i hi => ?_⟩
    have hn := hv.1
    simp at hn
    have := hc (off + i) (by omega)
    rw [Nat.zero_add] at this
    rw [this]
    have e2 : (xs ++ ys ++ zs).getD (off + i) 0 = ys.getD i 0 := by
      rw [List.getD_eq_getElem?_getD, List.getD_eq_getElem?_getD, List.append_assoc, List.getElem?_append_right (by omega), List.getElem?_append_left (by omega), hx, show off + i - off = i from by omega]
    rw [e2]

end Go.Proofs.Qxb6617859aDoor.Can
