/- The walk of appendString; what it keeps of the caller's other rows. -/
import Derived.Test.Qxb6617859aDoorUint
import Derived.Test.Qxb6617859aDoorLawInt
namespace Go.Proofs.Qxb6617859aDoor.Can
open Go.RowKit
set_option linter.unusedVariables false

/-- Every row of bytes of at most n cells that is not the block 'own' stands as it stood. -/
def SmallKept (n : Nat) (own : Option Nat) (w w' : World) : Prop :=
  ∀ (k : Nat) (c : Array Value), w.heap[k]? = some (.cells c 5 (0, 0)) → c.size ≤ n → own ≠ some k → w'.heap[k]? = some (.cells c 5 (0, 0))

theorem lt_of_some {w : World} {k : Nat} {o : Obj} (h : w.heap[k]? = some o) : k < w.heap.size := by
  rcases Nat.lt_or_ge k w.heap.size with h1 | h1
  · exact h1
  · rw [Array.getElem?_eq_none h1] at h; cases h

theorem small_of_grown {n : Nat} {own : Option Nat} {w w' : World} (h : w.grownBy w' own) : SmallKept n own w w' :=
  fun k c hk _ hne => (h.block k (lt_of_some hk) (fun e => hne e.symm)).trans hk

/-- A row of more than n elements is no row of at most n cells. -/
theorem small_ne {w : World} {B n m k : Nat} {v : Value} {xs : List Value} {c : Array Value} (h : w.ownsRow B 5 1 v m xs) (hnm : n < m) (hk : w.heap[k]? = some (.cells c 5 (0, 0))) (hc : c.size ≤ n) : v.ownBlock ≠ some k := by
  rcases h.2 with ⟨rfl, h0⟩ | ⟨g, cap, cur, rfl, hg, hh, hmc, hcm, hs, ht⟩
  · simp [Value.ownBlock]
  · intro e
    have e1 : g = k := by simpa [Value.ownBlock] using e
    subst e1
    rw [hh] at hk
    have e2 : cur = c := by simpa using hk
    subst e2
    omega

/-- A further step at a row of more than n elements. -/
theorem SmallKept.step {n m B : Nat} {own : Option Nat} {w w1 w2 : World} {v : Value} {xs : List Value} (h : SmallKept n own w w1) (hown : w1.ownsRow B 5 1 v m xs) (hnm : n < m) (hg : w1.grownBy w2 v.ownBlock) : SmallKept n own w w2 :=
  fun k c hk hc hne =>
    have h1 := h k c hk hc hne
    (hg.block k (lt_of_some h1) (fun e => small_ne hown hnm h1 hc e.symm)).trans h1

theorem SmallKept.alloc {n : Nat} {own : Option Nat} {w w1 : World} (h : SmallKept n own w w1) (o : Obj) : SmallKept n own w (w1.alloc o) :=
  fun k c hk hc hne =>
    have h1 := h k c hk hc hne
    (Below.heap_alloc w1 o k (lt_of_some h1)).trans h1

theorem appendUint_any (B n u : Nat) (hu64 : u < 18446744073709551616) (sv : Value) (xs : List Value) (w : World) (hown : w.ownsRow B 5 1 sv n xs) (hBw : B ≤ w.heap.size) (hlim : n + 20 ≤ 140737488355328)
    (htab : Lib.TabIs Tryd.prog w Tryd.tabName .u64 Lib.pow10Tab) :
    Calls Tryd.prog 19 #[sv, .int .u64 u, .int .i64 10] w fun e w' => ∃ v', e = .returned v' ∧ w'.ownsRow B 5 1 v' (n + (Lib.decDigits u).length) (xs ++ Lib.byteCells (Lib.decDigits u)) ∧ w.grownBy w' sv.ownBlock := by
  by_cases h : u < 100
  · exact appendUint_small B n u h sv xs w hown hBw hlim
  · exact appendUint_big B n u (by omega) hu64 sv xs w hown hBw hlim htab

set_option maxHeartbeats 1600000 in
/-- strconv.AppendInt at base 10, at a number that is not negative. -/
theorem appendNat_any (B n u : Nat) (hu : u ≤ 9223372036854775807) (sv : Value) (xs : List Value) (w : World) (hown : w.ownsRow B 5 1 sv n xs) (hBw : B ≤ w.heap.size) (hlim : n + 20 ≤ 140737488355328)
    (htab : Lib.TabIs Tryd.prog w Tryd.tabName .u64 Lib.pow10Tab) :
    Calls Tryd.prog 17 #[sv, .int .i64 (u : Int), .int .i64 10] w fun e w' => ∃ v', e = .returned v' ∧ w'.ownsRow B 5 1 v' (n + (Lib.decDigits u).length) (xs ++ Lib.byteCells (Lib.decDigits u)) ∧ w.grownBy w' sv.ownBlock := by
  have HO := hid hown
  have HT := hid htab
  clear hown htab
  go_enter Tryd.func17, Tryd.ntmps17
  go_wp2_with (first
    | (go_at_call 19; refine (appendUint_any B n u (by omega) sv xs _ HO.out hBw hlim HT.out).mono ?_; rintro e w2 ⟨v2, rfl, hown2, hg2⟩)
    | go_in)
  go_ret
  exact ⟨v2, rfl, hown2, hg2⟩

theorem strCells_nums (s : ByteArray) : Lib.strCells s = cells (nums s.data.toList) := by
  rw [Lib.strCells_eq, byteCells_nums]

set_option maxHeartbeats 3200000 in
theorem appendString_any (B n : Nat) (sv : Value) (zs : List Int) (s : ByteArray) (w : World) (hown : w.ownsRow B 5 1 sv n (cells zs)) (hBw : B ≤ w.heap.size) (hm : n ≤ 1048576) (hs : s.size ≤ 1048576)
    (htab : Lib.TabIs Tryd.prog w Tryd.tabName .u64 Lib.pow10Tab) :
    Calls Tryd.prog 16 #[sv, .string s] w fun e w' => ∃ g cap, e = .returned (.slice (some ⟨g, 0, none⟩) (n + (Lib.decDigits s.size).length + 1 + s.size) cap) ∧ n + (Lib.decDigits s.size).length + 1 + s.size ≤ cap ∧ cap ≤ maxLen ∧
      View w' (some ⟨g, 0, none⟩) (n + (Lib.decDigits s.size).length + 1 + s.size) (zs ++ nums (Lib.decDigits s.size) ++ [58] ++ nums s.data.toList) ∧ Below B w w' ∧ SmallKept n sv.ownBlock w w' := by
  obtain ⟨i0, hi, hz0, hz1, hz2⟩ := info_parts info5
  have la := dec_len 18 s.size (by omega)
  have lp : 0 < (Lib.decDigits s.size).length := List.length_pos_iff.2 (dec_ne _)
  obtain ⟨L, HL⟩ : ∃ L, Hid (L = (Lib.decDigits s.size).length) := ⟨_, rfl⟩
  rw [← HL.out] at la lp
  have HO := hid hown
  have HT := hid htab
  clear hown htab
  go_enter Tryd.func16, Tryd.ntmps16
  go_wp2_with fail
  refine (appendNat_any B n s.size (by omega) sv _ _ HO.out hBw (by omega) HT.out).mono ?_
  rw [← HL.out]
  rintro e w1 ⟨v1, rfl, hown1, hg1⟩
  have B1 : Below B w w1 := (Below.refl _ _).grown hg1 hBw (fun k hk => (HO.out.lt k hk).1)
  have hsz1 := B1.size
  have K1 : SmallKept n sv.ownBlock w w1 := small_of_grown hg1
  rw [byteCells_nums, ← cells_append] at hown1
  clear hg1
  go_wp2_with (at_builtin; refine wpList_append_own _ rfl (.tmp 9) (.tmp 10) 22 rfl B 5 i0 (.int .u8 0) 1 1 Tryd.underlying22 hi hz0 hz1 hz2 rfl (by decide) _ _ _ rfl (hown1.alloc _) ⟨w1.heap.size, 0, none⟩ 1 1 [Value.int .u8 58] rfl rfl (by intro t u ht; match t, ht with | 0, ht => simp at ht; subst ht; simp [Addr.add]) (by intro u hu; simp at hu; subst hu; rfl) (by unfold maxLen; omega) (by omega) (by simp; omega) ?_; intro v2 w2 hown2 hg2 _; refine Hid.out ?_)
  refine hid ?_
  have B2 : Below B w w2 := (B1.alloc (by omega) _).grown hg2 (by simp; omega) (fun k hk => (hown1.lt k hk).1)
  have hsz2 := B2.size
  have K2 : SmallKept n sv.ownBlock w w2 := (K1.alloc _).step (hown1.alloc _) (by omega) hg2
  have e2 : cells (zs ++ nums (Lib.decDigits s.size)) ++ [Value.int .u8 58] = cells (zs ++ nums (Lib.decDigits s.size) ++ [58]) := (cells_append _ [58]).symm
  rw [e2] at hown2
  clear hg2 hown1 e2
  go_wp2_with (at_builtin; refine Lib.wpList_append_own_string _ rfl (.tmp 12) (.tmp 13) 22 9 rfl B 5 i0 Tryd.underlying22 Tryd.underlying9 hi hz0 hz1 hz2 _ _ _ rfl hown2 s rfl (by unfold maxLen; omega) (by omega) (by omega) ?_; intro v3 w3 hown3 hg3 _; refine Hid.out ?_)
  refine hid ?_
  have B3 : Below B w w3 := B2.grown hg3 (by omega) (fun k hk => (hown2.lt k hk).1)
  have K3 : SmallKept n sv.ownBlock w w3 := K2.step hown2 (by omega) hg3
  rw [strCells_nums, ← cells_append] at hown3
  obtain ⟨g, cap, rfl, hcap, hmx, hv3⟩ := owned_shape hown3 (by omega)
  have HV3 := hid hv3
  clear hown3 hown2 hg3 hv3
  go_wp2
  go_ret
  rw [← HL.out]
  exact ⟨g, cap, rfl, hcap, hmx, HV3.out, B3, K3⟩

/-- The pass-through. -/
theorem zzAppendString_any (B n : Nat) (sv : Value) (zs : List Int) (s : ByteArray) (w : World) (hown : w.ownsRow B 5 1 sv n (cells zs)) (hBw : B ≤ w.heap.size) (hm : n ≤ 1048576) (hs : s.size ≤ 1048576)
    (htab : Lib.TabIs Tryd.prog w Tryd.tabName .u64 Lib.pow10Tab) :
    Calls Tryd.prog 12 #[sv, .string s] w fun e w' => ∃ g cap, e = .returned (.slice (some ⟨g, 0, none⟩) (n + (Lib.decDigits s.size).length + 1 + s.size) cap) ∧ n + (Lib.decDigits s.size).length + 1 + s.size ≤ cap ∧ cap ≤ maxLen ∧
      View w' (some ⟨g, 0, none⟩) (n + (Lib.decDigits s.size).length + 1 + s.size) (zs ++ nums (Lib.decDigits s.size) ++ [58] ++ nums s.data.toList) ∧ Below B w w' ∧ SmallKept n sv.ownBlock w w' := by
  have HO := hid hown
  have HT := hid htab
  clear hown htab
  go_enter Tryd.func12, Tryd.ntmps12
  go_wp2_with fail
  refine (appendString_any B n sv zs s _ HO.out hBw hm hs HT.out).mono ?_
  rintro e w' ⟨g, cap, rfl, hcap, hmx, hv', hb, hk⟩
  have HV' := hid hv'
  have HK' := hid hk
  clear hv' hk
  go_wp2
  go_ret
  exact ⟨g, cap, rfl, hcap, hmx, HV'.out, hb, HK'.out⟩

end Go.Proofs.Qxb6617859aDoor.Can
