/- The walk of FnCanonicalIntMinusSign. -/
import Derived.Test.Qxb6617859aCanAny
namespace Go.Proofs.Qxb6617859a.Can
open Go.RowKit
set_option linter.unusedVariables false

theorem hid {p : Prop} (h : p) : Hid p := h

theorem bytes2_any (ad : Option Addr) (n c : Nat) (w : World) (hn : n ≤ 9223372036854775807) :
    Calls Try.prog 9 #[.slice ad n c] w fun e w' => e = .returned (.bool (decide (n ≤ 1048576))) ∧ w' = w := by
  by_cases h : n ≤ 1048576
  · have h1 : decide (n ≤ 1048576) = true := decide_eq_true h
    rw [h1]
    clear h1
    go_enter Try.func9, Try.ntmps9
    go_wp2
    go_ret
    exact ⟨rfl, rfl⟩
  · have h1 : decide (n ≤ 1048576) = false := decide_eq_false h
    rw [h1]
    clear h1
    go_enter Try.func9, Try.ntmps9
    go_wp2
    go_ret
    exact ⟨rfl, rfl⟩

theorem neg_step (zs : List Int) (i : Nat) (hi : i < zs.length) : cells (45 :: zs.take i) ++ [.int .u8 zs[i]] = cells (45 :: zs.take (i + 1)) := by
  unfold cells
  rw [List.take_succ_eq_append_getElem hi]
  simp only [List.map_append, List.map_cons, List.map_nil, List.cons_append]

set_option maxHeartbeats 3200000 in
theorem minus_any (ad : Option Addr) (n c : Nat) (zs : List Int) (w : World) (hv : View w ad n zs) (hnil : ad = none → n = 0 ∧ c = 0) (hm : n ≤ 1048576) :
    Calls Try.prog 4 #[.slice ad n c] w fun e w' => e = .returned (.bool true) ∧ Below w.heap.size w w' := by
  obtain ⟨i0, hi, hz0, hz1, hz2⟩ := info_parts info5
  have hd : decide (n ≤ 1048576) = true := decide_eq_true hm
  have hd2 : decide ((1048576 : Int) < (n : Int)) = false := decide_eq_false (by omega)
  have HN := hid (hnil)
  have HV := hid (hv)
  have HL : Hid (zs.length = n) := hv.1
  clear hnil hv
  go_enter Try.func4, Try.ntmps4
  go_wp2_with fail
  refine (bytes2_any _ _ _ _ (by omega)).mono ?_
  rintro e w1 ⟨rfl, rfl⟩
  go_wp2_with fail
  refine (clone_any _ _ _ zs _ HV.out HN.out hm).mono ?_
  rintro e w1 ⟨ad1, c1, rfl, hc1, v1, n1, b1⟩
  have N1 := hid (n1)
  have V1 := hid (v1)
  clear n1 v1
  go_wp2_with fail
  refine (clone_any _ _ _ zs _ V1.out N1.out hm).mono ?_
  rintro e w2 ⟨ad2, c2, rfl, hc2, v2, n2, b2⟩
  have V2 := hid (v2)
  have V12 := hid (view_below V1.out b2)
  have hb2 := b1.trans (b2.mono b1.size)
  clear n2 v2
  go_wp2_with (first
    | (at_make; refine wpList_make_own _ rfl _ _ 22 rfl w2.heap.size 5 i0 (.int .u8 0) 1 Try.underlying22 hi hz0 hz1 _ _ _ (n + 1) rfl rfl (by omega) (by rw [hz2]; omega) (by unfold maxLen; omega) (Nat.le_refl _) ?_; intro w3 hown3 hgrow3; have B3 := (Below.refl w2.heap.size w2).grown hgrow3 (Nat.le_refl _) (fun k h => by cases h); have hsz3 := B3.size)
    | (at_builtin; refine wpList_append_fits _ rfl (.tmp 22) (.tmp 23) 22 rfl w2.heap.size 5 i0 1 Try.underlying22 hi hz1 w2.heap.size 0 (n + 1) _ rfl (hown3.alloc _) ⟨w3.heap.size, 0, none⟩ 1 1 [.int .u8 45] rfl rfl (by intro t u ht; match t, ht with | 0, ht => simp at ht; subst ht; simp [Addr.add]) (by intro u hu; simp at hu; subst hu; rfl) (by omega) ?_; intro w4 hown4 hgrow4))
  have B4 : Below w2.heap.size w2 w4 := (B3.alloc hsz3 _).grown hgrow4 (by simp; omega) (fun k h => by cases h; exact Nat.le_refl _)
  clear hown3 hgrow3 hgrow4
  go_loopw [4, 5] (fun out si wr => ∃ i : Nat, i ≤ n ∧ si = .int .i64 i ∧ out = .slice (some ⟨w2.heap.size, 0, none⟩) (i + 1) (n + 1) ∧
      wr.ownsRow w2.heap.size 5 1 (.slice (some ⟨w2.heap.size, 0, none⟩) (i + 1) (n + 1)) (i + 1) (cells (45 :: zs.take i)) ∧ Below w2.heap.size w2 wr) (fun _ si _ => n - (intOf si).toNat)
  case atStart => exact ⟨0, Nat.zero_le _, rfl, rfl, by simpa [cells] using hown4, B4⟩
  case round =>
    obtain ⟨i, hin, rfl, rfl, hown, hbel⟩ := hrel
    clear hown4 B4 B3 hsz3
    have hszr := hbel.size
    by_cases hlt : i < n
    · rcases V2.out.2 with h0 | ⟨b, off, hab, hb, hcell⟩
      · omega
      have HAB := hid (hab)
      subst hab
      have hil : i < zs.length := by rw [HL.out]; exact hlt
      have hcx : wr.cell? ⟨b, off + i, none⟩ = some (.int .u8 zs[i]) := by
        rw [hbel.cell (by exact hb), hcell i hlt, List.getD_eq_getElem?_getD, List.getElem?_eq_getElem hil]; rfl
      clear hcell
      go_wp2_with (at_builtin; refine wpList_append_fits _ rfl (.tmp 31) (.tmp 36) 22 rfl w2.heap.size 5 i0 1 Try.underlying22 hi hz1 w2.heap.size (i + 1) (n + 1) _ rfl (hown.alloc _) ⟨wr.heap.size, 0, none⟩ 1 1 [.int .u8 zs[i]] rfl rfl (by intro t u ht; match t, ht with | 0, ht => simp at ht; subst ht; simp [Addr.add]) (by intro u hu; simp at hu; subst hu; rfl) (by omega) ?_; intro w5 hown5 hgrow5)
      rw [neg_step zs i hil] at hown5
      go_roundw
      case rel => exact ⟨i + 1, by omega, by go_num, rfl, hown5, (hbel.alloc hszr _).grown hgrow5 (by simp; omega) (fun k h => by cases h; exact Nat.le_refl _)⟩
      case measure => simp [intOf]; omega
    · have hik : i = n := by omega
      subst hik
      rw [List.take_of_length_le (by rw [HL.out]; exact Nat.le_refl _)] at hown
      have VN := hid (owned_view hown)
      have W1 := hid (view_below V12.out hbel)
      have W2 := hid (view_below V2.out hbel)
      have hbw := hb2.trans (hbel.mono hb2.size)
      clear hown
      go_wp2_with fail
      refine (zzcanon_any _ _ _ zs _ _ W1.out hc1 (by omega)).mono ?_
      rintro e wA ⟨rfl, rfl⟩
      go_wp2_with fail
      refine (nf_any _ _ _ zs _ _ W2.out hm).mono ?_
      rintro e wB ⟨rfl, bB⟩
      have hszB := bB.size
      have VNB := hid (view_below VN.out bB)
      have WB1 := hid (view_below W1.out bB)
      have WB2 := hid (view_below W2.out bB)
      have hbwB := hbw.trans (bB.mono hbw.size)
      rw [← canon_nf zs false]
      have C1 := hid (canon_minus_true zs)
      have C2 := hid (canon_minus_false zs)
      have C3 := hid (canon_flag zs)
      obtain ⟨p, HP⟩ : ∃ p, Hid (p = canon zs false) := ⟨_, rfl⟩
      rw [← HP.out]
      by_cases hi0 : i = 0
      · -- nothing in m
        subst hi0
        have ez : zs = [] := List.length_eq_zero_iff.1 HL.out
        have ep : p = false := by rw [HP.out, ez]; rfl
        have Q1 : Hid (canon (45 :: zs) true = false) := by show _ = _; rw [ez]; rfl
        have Q3 : Hid (canon zs true = false) := by show _ = _; rw [ez]; rfl
        subst ep
        clear ez
        go_wp2_with fail
        refine (zzcanon_any _ _ _ (45 :: zs) _ _ VNB.out (Nat.le_refl _) (by omega)).mono ?_
        rintro e wC ⟨rfl, rfl⟩
        rw [Q1.out]
        go_wp2_with fail
        refine (zzcanon_any _ _ _ (45 :: zs) _ _ VNB.out (Nat.le_refl _) (by omega)).mono ?_
        rintro e wC ⟨rfl, rfl⟩
        rw [C2.out]
        go_wp2_with fail
        refine (zzcanon_any _ _ _ zs _ _ WB1.out hc1 (by omega)).mono ?_
        rintro e wC ⟨rfl, rfl⟩
        rw [Q3.out]
        go_wp2
        go_ret
        exact ⟨rfl, hbwB⟩
      · -- a first byte
        rcases WB2.out.2 with h0 | ⟨b, off, hab, hb, hcell⟩
        · omega
        subst hab
        obtain ⟨z, r, ez⟩ : ∃ z r, zs = z :: r := by
          cases hz : zs with
          | nil => exact absurd (by rw [← HL.out, hz]; rfl) hi0
          | cons z r => exact ⟨z, r, rfl⟩
        have hc0 : wB.cell? ⟨b, off, none⟩ = some (.int .u8 z) := by
          have := hcell 0 (by omega)
          rw [ez] at this
          simpa using this
        have hlr : r.length + 1 = i := by rw [← HL.out, ez]; rfl
        obtain ⟨iz, HI⟩ : ∃ iz, Hid (iz = (zs == [48])) := ⟨_, rfl⟩
        have Q1 : Hid (canon (45 :: zs) true = (p && !iz)) := by show _ = _; rw [C1.out, HP.out, HI.out]
        have hcase : (i = 1 ∧ z = 48 ∧ iz = true) ∨ (i = 1 ∧ z ≠ 48 ∧ iz = false) ∨ (i ≠ 1 ∧ iz = false) := by
          by_cases h1 : i = 1
          · have hr : r = [] := List.length_eq_zero_iff.1 (by omega)
            by_cases h48 : z = 48
            · exact .inl ⟨h1, h48, by rw [HI.out, ez, hr, h48]; rfl⟩
            · exact .inr (.inl ⟨h1, h48, by rw [HI.out, ez, hr]; simpa using h48⟩)
          · refine .inr (.inr ⟨h1, ?_⟩)
            rw [HI.out, beq_eq_false_iff_ne]
            intro h
            rw [ez] at h
            injection h with _ h
            rw [h] at hlr
            simp at hlr
            omega
        have Q3 : Hid (z ≠ 45 → canon zs true = p) := by
          intro h
          rw [HP.out]
          exact C3.out (by rw [ez]; simpa using h)
        have hn0 : ((i : Int) == 0) = false := beq_eq_false_iff_ne.2 (by omega)
        have HE := hid (ez)
        have HLR := hid (hlr)
        clear ez hcell hlr HE C1 C3
        by_cases h45 : z = 45
        · subst h45
          rcases hcase with ⟨h1, h48, hz⟩ | ⟨h1, h48, hz⟩ | ⟨h1, hz⟩
          · omega
          all_goals subst hz
          case' inr.inl => have b1 : ((i : Int) == 1) = true := beq_iff_eq.2 (by omega)
          case' inr.inr => have b1 : ((i : Int) == 1) = false := beq_eq_false_iff_ne.2 (by omega)
          all_goals try clear h48
          all_goals clear h1
          all_goals cases p
          all_goals
            go_wp2_with fail
            refine (zzcanon_any _ _ _ (45 :: zs) _ _ VNB.out (Nat.le_refl _) (by omega)).mono ?_
            rintro e wC ⟨rfl, rfl⟩
            rw [Q1.out]
            go_wp2_with fail
            refine (zzcanon_any _ _ _ (45 :: zs) _ _ VNB.out (Nat.le_refl _) (by omega)).mono ?_
            rintro e wC ⟨rfl, rfl⟩
            rw [C2.out]
            go_wp2
            go_ret
            exact ⟨rfl, hbwB⟩
        · have bne : (z != 45) = true := bne_iff_ne.2 h45
          have H45 := hid (h45)
          clear h45
          rcases hcase with ⟨h1, h48, hz⟩ | ⟨h1, h48, hz⟩ | ⟨h1, hz⟩
          all_goals subst hz
          case' inl => have b1 : ((i : Int) == 1) = true := beq_iff_eq.2 (by omega)
          case' inl => have b2 : (z == 48) = true := beq_iff_eq.2 h48
          case' inr.inl => have b1 : ((i : Int) == 1) = true := beq_iff_eq.2 (by omega)
          case' inr.inl => have b2 : (z == 48) = false := beq_eq_false_iff_ne.2 h48
          case' inr.inr => have b1 : ((i : Int) == 1) = false := beq_eq_false_iff_ne.2 (by omega)
          all_goals try clear h48
          all_goals clear h1
          all_goals cases p
          all_goals
            go_wp2_with fail
            refine (zzcanon_any _ _ _ (45 :: zs) _ _ VNB.out (Nat.le_refl _) (by omega)).mono ?_
            rintro e wC ⟨rfl, rfl⟩
            rw [Q1.out]
            go_wp2_with fail
            refine (zzcanon_any _ _ _ (45 :: zs) _ _ VNB.out (Nat.le_refl _) (by omega)).mono ?_
            rintro e wC ⟨rfl, rfl⟩
            rw [C2.out]
            go_wp2_with fail
            refine (zzcanon_any _ _ _ zs _ _ WB1.out hc1 (by omega)).mono ?_
            rintro e wC ⟨rfl, rfl⟩
            rw [Q3.out H45.out]
            go_wp2
            go_ret
            exact ⟨rfl, hbwB⟩

end Go.Proofs.Qxb6617859a.Can
