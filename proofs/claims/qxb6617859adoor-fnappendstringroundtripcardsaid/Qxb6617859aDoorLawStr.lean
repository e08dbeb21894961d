/- The walk of FnAppendStringRoundTrip. -/
import Derived.Test.Qxb6617859aDoorAppStr
namespace Go.Proofs.Qxb6617859aDoor.Can
open Go.RowKit
set_option linter.unusedVariables false

theorem bytes2_yes (ad : Option Addr) (n c : Nat) (s : ByteArray) (w : World) (h1 : n ≤ 1048576) (h2 : s.size ≤ 1048576) (h3 : n + s.size ≤ 1048576) :
    Calls Tryd.prog 11 #[.slice ad n c, .string s] w fun e w' => e = .returned (.bool true) ∧ w' = w := by
  go_enter Tryd.func11, Tryd.ntmps11
  go_wp2
  go_ret
  exact ⟨rfl, rfl⟩

theorem bytes2_no (ad : Option Addr) (n c : Nat) (s : ByteArray) (w : World) (hn : n ≤ 9223372036854775807) (hs : s.size ≤ 9223372036854775807) (h : ¬ (n + s.size ≤ 1048576)) :
    Calls Tryd.prog 11 #[.slice ad n c, .string s] w fun e w' => e = .returned (.bool false) ∧ w' = w := by
  by_cases h1 : n ≤ 1048576
  · by_cases h2 : s.size ≤ 1048576
    · go_enter Tryd.func11, Tryd.ntmps11
      go_wp2
      go_ret
      exact ⟨rfl, rfl⟩
    · go_enter Tryd.func11, Tryd.ntmps11
      go_wp2
      go_ret
      exact ⟨rfl, rfl⟩
  · go_enter Tryd.func11, Tryd.ntmps11
    go_wp2
    go_ret
    exact ⟨rfl, rfl⟩

theorem view_of_own {w : World} {base n c : Nat} {ad : Option Addr} {zs : List Int} (h : w.ownsRow base 5 1 (.slice ad n c) n (cells zs)) : View w ad n zs := by
  have hl : zs.length = n := by have := h.1; simp [cells] at this; exact this
  by_cases h0 : n = 0
  · exact ⟨hl, .inl h0⟩
  · obtain ⟨g, cap, e, _, _, hv⟩ := owned_shape h (by omega)
    have e1 : ad = some ⟨g, 0, none⟩ := by simpa using congrArg (fun v => match v with | .slice a _ _ => a | _ => none) e
    rw [e1]
    exact hv

/-- What is owned, with no more cells than n, is kept by whoever keeps small rows. -/
theorem own_small {w w' : World} {base n : Nat} {ad own : Option Addr} {xs : List Value} {o : Option Nat} (h : w.ownsRow base 5 1 (.slice ad n n) n xs) (hk : SmallKept n o w w') (ho : ∀ k, base ≤ k → o ≠ some k) : w'.ownsRow base 5 1 (.slice ad n n) n xs := by
  refine ⟨h.1, ?_⟩
  rcases h.2 with h2 | ⟨g, cap, cur, hv, hg, hh, hmc, hcm, hs, ht⟩
  · exact .inl h2
  · have hcap : cap = n := by simpa using (congrArg (fun v => match v with | .slice _ _ c => c | _ => 0) hv).symm
    exact .inr ⟨g, cap, cur, hv, hg, hk g cur hh (by omega) (ho g hg), hmc, hcm, hs, ht⟩

/-- zzClone at every slice: what comes back is owned, and has no room to spare. -/
theorem clone_own (ad : Option Addr) (n c : Nat) (zs : List Int) (w : World) (hv : View w ad n zs) (hnil : ad = none → n = 0 ∧ c = 0) (hm : n ≤ 1048576) :
    Calls Tryd.prog 6 #[.slice ad n c] w fun e w' => ∃ ad', e = .returned (.slice ad' n n) ∧ w'.ownsRow w.heap.size 5 1 (.slice ad' n n) n (cells zs) ∧ (ad' = none → n = 0) ∧ Below w.heap.size w w' := by
  cases ad with
  | none =>
    obtain ⟨rfl, rfl⟩ := hnil rfl
    have e0 : zs = [] := List.length_eq_zero_iff.1 hv.1
    subst e0
    exact (clone_nil w).mono fun e w' ⟨h1, h2⟩ => ⟨none, h1, World.ownsRow_nil _ _ _ _, fun _ => rfl, h2 ▸ Below.refl _ _⟩
  | some x =>
    have key : ∀ b off, (n = 0 ∨ (some x = some ⟨b, off, none⟩ ∧ b < w.heap.size ∧ ∀ i, i < n → w.cell? ⟨b, off + i, none⟩ = some (.int .u8 (zs.getD i 0)))) →
        Calls Tryd.prog 6 #[.slice (some x) n c] w fun e w' => ∃ ad', e = .returned (.slice ad' n n) ∧ w'.ownsRow w.heap.size 5 1 (.slice ad' n n) n (cells zs) ∧ (ad' = none → n = 0) ∧ Below w.heap.size w w' :=
      fun b off h => (clone_some b off n c (some x) zs w hv.1 hm (by simp) h).mono fun e w' ⟨h1, h2, h3⟩ => ⟨_, h1, h2, (fun h => by cases h), h3⟩
    rcases hv.2 with h | ⟨b, off, e, hb, hc⟩
    · exact key 0 0 (.inl h)
    · exact key b off (.inr ⟨e, hb, hc⟩)

/-- A cell of what is seen. -/
theorem view_at {w : World} {g off m : Nat} {ys : List Int} (h : View w (some ⟨g, off, none⟩) m ys) (i : Nat) (hi : i < ys.length) : w.cell? ⟨g, off + i, none⟩ = some (.int .u8 ys[i]) := by
  rcases h.2 with h0 | ⟨b, o, e, hb, hc⟩
  · have := h.1; omega
  · have e1 := Option.some.inj e
    have := hc i (by have := h.1; omega)
    obtain ⟨rfl, rfl⟩ : g = b ∧ off = o := ⟨congrArg Addr.block e1, congrArg Addr.off e1⟩
    rw [this, List.getD_eq_getElem?_getD, List.getElem?_eq_getElem hi]
    rfl

set_option maxHeartbeats 6400000 in
theorem lawStr_any (ad : Option Addr) (n c : Nat) (zs : List Int) (s : ByteArray) (w : World) (hv : View w ad n zs) (hnil : ad = none → n = 0 ∧ c = 0) (hm : n ≤ 524288) (hS : s.size ≤ 524288)
    (htab : Lib.TabIs Tryd.prog w Tryd.tabName .u64 Lib.pow10Tab) :
    Calls Tryd.prog 4 #[.slice ad n c, .string s] w fun e w' => e = .returned (.bool true) ∧ Below w.heap.size w w' := by
  have hd2 : decide ((524288 : Int) < (n : Int)) = false := decide_eq_false (by omega)
  have hd3 : decide ((524288 : Int) < (s.size : Int)) = false := decide_eq_false (by omega)
  have hT := hid (Lib.tabBelow_of_tabIs htab)
  have HN := hid hnil
  have HV := hid hv
  have la := dec_len 18 s.size (by omega)
  have lp : 0 < (Lib.decDigits s.size).length := List.length_pos_iff.2 (dec_ne _)
  obtain ⟨L, HL⟩ : ∃ L, Hid (L = (Lib.decDigits s.size).length) := ⟨_, rfl⟩
  rw [← HL.out] at la lp
  have HC := hid (canon_dec s.size false)
  have HZ : Hid (zs.length = n) := hv.1
  clear hnil hv htab
  go_enter Tryd.func4, Tryd.ntmps4
  go_wp2_with fail
  refine (bytes2_yes _ _ _ _ _ (by omega) (by omega) (by omega)).mono ?_
  rintro e w1 ⟨rfl, rfl⟩
  go_wp2_with fail
  refine (clone_own _ _ _ zs _ HV.out HN.out (by omega)).mono ?_
  rintro e w1 ⟨ad1, rfl, o1, n1, b1⟩
  have N1 := hid n1
  have O1 := hid o1
  clear n1 o1
  go_wp2_with fail
  refine (clone_own _ _ _ zs _ (view_of_own O1.out) (fun h => ⟨N1.out h, N1.out h⟩) (by omega)).mono ?_
  rintro e w2 ⟨ad2, rfl, o2, n2, b2⟩
  have hb2 := b1.trans (b2.mono b1.size)
  have hsz1 := b1.size
  have hsz2 := hb2.size
  have O2 := hid o2
  have O12 := hid (O1.out.kept (grown_of_below b2 none) (by cases Value.ownBlock (.slice ad1 n n) <;> simp))
  have ne : Hid (∀ k, w1.heap.size ≤ k → Value.ownBlock (.slice ad1 n n) ≠ some k) := fun k hk e => by
    have := (O1.out.lt k e).2
    omega
  clear n2 o2
  go_wp2_with fail
  refine (zzAppendString_any _ n _ zs s _ O12.out hsz2 (by omega) (by omega) (hT.out _ hb2)).mono ?_
  rw [← HL.out]
  rintro e w3 ⟨g, cap, rfl, hcap, hmx, v3, b3, k3⟩
  have hb3 := hb2.trans b3
  have V23 := hid (view_of_own (own_small (own := none) O2.out k3 ne.out))
  have VA : Hid (View w3 (some ⟨g, 0, none⟩) n zs) := view_part (xs := []) (zs := nums (Lib.decDigits s.size) ++ [58] ++ nums s.data.toList) (by simpa using v3) rfl HZ.out
  have VD : Hid (View w3 (some ⟨g, n, none⟩) L (nums (Lib.decDigits s.size))) := view_part (xs := zs) (zs := [58] ++ nums s.data.toList) (by simpa using v3) HZ.out (by simp [nums, HL.out])
  have VS : Hid (View w3 (some ⟨g, n + L + 1, none⟩) s.size (nums s.data.toList)) := view_part (xs := zs ++ nums (Lib.decDigits s.size) ++ [58]) (zs := []) (by rw [List.append_nil]; exact v3) (by rw [List.length_append, List.length_append, HZ.out, HL.out]; simp [nums]) (by simp [nums])
  have cc : w3.cell? ⟨g, n + L, none⟩ = some (.int .u8 58) := view_cell (xs := zs ++ nums (Lib.decDigits s.size)) (zs := nums s.data.toList) (by simpa using v3) (n + L) (by rw [List.length_append, HZ.out, HL.out]; simp [nums])
  clear v3
  unfold maxLen at hmx
  have hd4 : decide ((n : Int) + (L : Int) + 1 < (n : Int) + 2) = false := decide_eq_false (by omega)
  have RD : Hid (∀ j : Nat, n ≤ j → j < n + L → ∃ d : Int, w3.cell? ⟨g, j, none⟩ = some (.int .u8 d) ∧ (d != 58) = true) := by
    intro j h1 h2
    have hj : j - n < (nums (Lib.decDigits s.size)).length := by have := VD.out.1; omega
    have hc := view_at VD.out (j - n) hj
    rw [show n + (j - n) = j from by omega] at hc
    refine ⟨_, hc, bne_iff_ne.2 ?_⟩
    have := List.all_eq_true.1 (dec_all s.size) _ (List.getElem_mem hj)
    simp only [dig, Bool.and_eq_true, decide_eq_true_eq] at this
    omega
  have RS : Hid (∀ i : Nat, ∀ h : i < s.size, w3.cell? ⟨g, n + L + 1 + i, none⟩ = some (.int .u8 (s[i].toNat : Int))) := by
    intro i h
    have hi : i < (nums s.data.toList).length := by rw [VS.out.1]; exact h
    have hc := view_at VS.out i hi
    rw [hc]
    simp only [nums, List.getElem_map]
    rfl
  go_wp2_with fail
  refine (eq_any _ _ _ _ _ _ zs zs _ VA.out V23.out (by omega) (by omega)).mono ?_
  rintro e w4 ⟨rfl, q, rfl⟩
  rw [decide_eq_true (rfl : zs = zs)]
  go_wp2_with fail
  go_loop [7] (fun k => ∃ j : Nat, n ≤ j ∧ j ≤ n + L ∧ k = .int .i64 j) (fun k => n + L - (intOf k).toNat)
  case atStart => exact ⟨n, Nat.le_refl _, by omega, rfl⟩
  case round =>
    obtain ⟨j, hj1, hj2, rfl⟩ := hrel
    by_cases hlt : j < n + L
    · obtain ⟨d, hcd, hd58⟩ := RD.out j hj1 hlt
      go_wp2
      go_round
      case rel => exact ⟨j + 1, by omega, by omega, by go_num⟩
      case measure => simp [intOf]; omega
    · have hjL : j = n + L := by omega
      subst hjL
      go_wp2_with fail
      refine (zzcanon_any _ _ _ (nums (Lib.decDigits s.size)) _ _ (view_drewN VD.out q) (by omega) (by omega)).mono ?_
      rintro e w5 ⟨rfl, rfl⟩
      rw [HC.out]
      go_wp2_with fail
      have VI : Hid (View w3 (some ⟨g, n, none⟩) L (nums (Lib.itoa (s.size : Int)))) := by
        have e : Lib.itoa (s.size : Int) = Lib.decDigits s.size := Lib.itoa_nonneg s.size
        show View _ _ _ _
        rw [e]
        exact VD.out
      refine (parse_itoa _ _ _ (s.size : Int) _ (by omega) (by omega) (view_drewN VI.out q) (by omega)).mono ?_
      rintro e w5 ⟨rfl, rfl⟩
      have hbq := below_drewN hb3 q
      rw [decide_eq_false (show ¬ ((s.size : Int) < 0) from by omega), Int.natAbs_natCast]
      by_cases hS0 : s.size ≤ 0
      · go_wp2_with fail
        all_goals
          refine wp_loop_rounds 1 ?_
          rw [rounds_succ]
          go_wp2
          go_ret
          exact ⟨rfl, hbq⟩
      · have hcap2 : n + L + 1 < cap := by omega
        go_wp2_with fail
        go_loopw [13] (fun i wr => ∃ k q' : Nat, k ≤ s.size ∧ i = .int .i64 k ∧ wr = w3.drewN q') (fun i _ => s.size - (intOf i).toNat)
        case atStart => exact ⟨0, q, Nat.zero_le _, rfl, rfl⟩
        case round =>
          obtain ⟨k, q', hk, rfl, rfl⟩ := hrel
          by_cases hlt : k < s.size
          · have hck := RS.out k hlt
            have hb : ((s[k].toNat : Int) != (s[k].toNat : Int)) = false := by simp
            go_wp2
            go_quiet (fail)
            go_wp2
            go_roundw
            case rel => exact ⟨k + 1, _, by omega, by go_num, rfl⟩
            case measure => simp [intOf]; omega
          · go_wp2
            go_ret
            exact ⟨rfl, below_drewN hb3 q'⟩

end Go.Proofs.Qxb6617859aDoor.Can
