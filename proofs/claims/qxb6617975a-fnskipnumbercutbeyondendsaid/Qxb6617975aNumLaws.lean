/- The walks of the two laws on skipNumber. -/
import Derived.Test.Qxb6617975aNumSkip
import Derived.Test.Qxb6617975aColRestart
namespace Go.Proofs.Qxb6617975a.Num
open Go.RowKit Go.Proofs.Qxb6617975a.Col
set_option linter.unusedVariables false

theorem zzskip_zero (ad : Option Addr) (n c : Nat) (zs : List Int) (w : World) (hv : View w ad n zs) (hm : n ≤ 1048577) :
    Calls Try.prog 8 #[.slice ad n c, .int .i64 0] w fun e w' => e = .returned (.tuple #[.int .i64 ((A 0 zs 0).1 : Int), .bool (A 0 zs 0).2]) ∧ w' = w :=
  zzskip_any ad n c zs 0 w hv hm (Nat.zero_le _)

theorem view_drop {w : World} {g n i : Nat} {zs : List Int} (hv : View w (some ⟨g, 0, none⟩) n zs) (hi : i ≤ n) : View w (some ⟨g, i, none⟩) (n - i) (zs.drop i) := by
  refine ⟨by have := hv.1; simp; omega, ?_⟩
  by_cases h0 : n - i = 0
  · exact .inl h0
  · rcases hv.2 with h | ⟨b, off, e, hb, hc⟩
    · omega
    · obtain ⟨rfl, rfl⟩ : g = b ∧ 0 = off := ⟨congrArg Addr.block (Option.some.inj e), congrArg Addr.off (Option.some.inj e)⟩
      refine .inr ⟨g, i, rfl, hb, fun j hj => ?_⟩
      have := hc (i + j) (by omega)
      rw [Nat.zero_add] at this
      rw [this, List.getD_eq_getElem?_getD, List.getD_eq_getElem?_getD, List.getElem?_drop]

theorem view_take {w : World} {ad : Option Addr} {n C : Nat} {zs : List Int} (hv : View w ad n zs) (hC : C ≤ n) : View w ad C (zs.take C) := by
  refine ⟨by have := hv.1; simp; omega, ?_⟩
  by_cases h0 : C = 0
  · exact .inl h0
  · rcases hv.2 with h | ⟨b, off, e, hb, hc⟩
    · omega
    · refine .inr ⟨b, off, e, hb, fun j hj => ?_⟩
      rw [hc j (by omega), List.getD_eq_getElem?_getD, List.getD_eq_getElem?_getD, List.getElem?_take, if_pos hj]

theorem view_none {w : World} {ad : Option Addr} {n : Nat} {zs : List Int} (h : n = 0) (hl : zs.length = n) : View w ad n zs := ⟨hl, .inl h⟩

set_option maxHeartbeats 6400000 in
theorem shift_any (ad : Option Addr) (n c : Nat) (zs : List Int) (i : Nat) (w : World) (hv : View w ad n zs) (hnil : ad = none → n = 0 ∧ c = 0) (hm : n ≤ 65536) (hi : i ≤ n) :
    Calls Try.prog 3 #[.slice ad n c, .int .i64 (i : Int)] w fun e w' => e = .returned (.bool true) ∧ Below w.heap.size w w' := by
  obtain ⟨i0, hi0, hz0, hz1, hz2⟩ := info_parts info5
  have hd : decide (n ≤ 1048576) = true := decide_eq_true (by omega)
  have hd2 : decide ((65536 : Int) < (n : Int)) = false := decide_eq_false (by omega)
  have hd3 : decide ((i : Int) < 0) = false := decide_eq_false (by omega)
  have hd4 : decide ((n : Int) < (i : Int)) = false := decide_eq_false (by omega)
  have hd5 : decide (n < i) = false := decide_eq_false (by omega)
  have q22 := notNil
  have HV := hid hv
  have HL : Hid (zs.length = n) := hv.1
  have hA := A_le 0 zs i (by rw [HL.out]; exact hi)
  rw [HL.out] at hA
  clear hv
  cases ad
  case' none =>
    have hn0 : n ≤ 0 := by have := (hnil rfl).1; omega
    clear hnil
    go_enter Try.func3, Try.ntmps3
    go_wp2_with fail
    refine (bytes7 _ _ _ _ _ (by omega)).mono ?_
    rintro e w1 ⟨rfl, rfl⟩
    have V := HV
    have B3 := Below.refl w1.heap.size w1
  case' some x =>
    clear hnil
    go_enter Try.func3, Try.ntmps3
    go_wp2_with fail
    refine (bytes7 _ _ _ _ _ (by omega)).mono ?_
    rintro e w1 ⟨rfl, rfl⟩
    go_wp2_with (at_make; refine wpList_make_full _ rfl _ _ 22 rfl w1.heap.size 5 i0 (.int .u8 0) 1 Try.underlying22 hi0 hz0 hz1 _ _ _ _ n rfl rfl rfl rfl (by rw [hz2]; omega) (by unfold maxLen; omega) (Nat.le_refl _) ?_; intro w2 hown2 hgrow2; refine Hid.out ?_)
    refine hid ?_
    have B2 : Below w1.heap.size w1 w2 := (Below.refl _ _).grown hgrow2 (Nat.le_refl _) (fun k h => by cases h)
    have G2 := hid (own_block hown2)
    have hlen : (madeCells (Value.int .u8 0).cells (n * 1)).toList.length = n := by have := hown2.1; omega
    obtain ⟨cur, HC⟩ : ∃ cur, Hid (cur = (madeCells (Value.int .u8 0).cells (n * 1)).toList) := ⟨_, rfl⟩
    rw [← HC.out] at G2 hlen
    have hcl : (cells zs).length = n := by simp [cells, HL.out]
    clear hown2 hgrow2
    go_wp2_with (first | (refine wpList_copy_splice rfl (.tmp 26) (.tmp 27) 22 22 rfl 5 Try.underlying22 info5s _ _ _ _ _ _ rfl rfl w1.heap.size 0 cur 5 G2.out (cells zs) (by rw [hcl]; simp) (fun h => ⟨rfl, view_src HV.out B2 (by rw [hcl] at h; rw [HL.out]; exact h)⟩) (by omega) (cells_one zs) w1.heap.size w1 B2 (Nat.le_refl _) ?_; intro w3 hg3 B3; refine Hid.out ?_))
    refine hid ?_
    have V : Hid (View w3 (some ⟨w1.heap.size, 0, none⟩) n zs) := by
      have h := hg3.out
      rw [splice_all (by rw [hlen, hcl])] at h
      have := block_view h
      rw [HL.out] at this
      exact this
    clear hg3 HC G2 hlen hcl B2
  all_goals
    clear HV
    go_wp2_with fail
    refine (zzskip_any _ _ _ zs i _ V.out (by omega) hi).mono ?_
    rintro e w4 ⟨rfl, rfl⟩
    go_wp2_with fail
    refine (long_any _ _ _ zs i _ V.out (by omega) hi).mono ?_
    rintro e w4 ⟨rfl, rfl⟩
    obtain ⟨E, hE⟩ : ∃ E, Hid (E = (A 0 (zs.drop i) 0).1) := ⟨_, rfl⟩
    obtain ⟨O, hO⟩ : ∃ O, Hid (O = (A 0 (zs.drop i) 0).2) := ⟨_, rfl⟩
    have hS := hid (A_shift 0 zs i)
    rw [← hE.out, ← hO.out] at hS
    have hEn : i + E ≤ n := by have := hA.2; rw [hS.out] at this; exact this
    rw [hS.out]
    have hEE : (((i + E : Nat) : Int) != ((i + E : Nat) : Int)) = false := by simp
    have hOO : (O != O) = false := by simp
    clear hA
    by_cases hlt : i < n
    · first
      | (exfalso; omega)
      | (go_wp2_with fail
         refine (zzskip_zero _ _ _ (zs.drop i) _ (view_drop V.out hi) (by omega)).mono ?_
         rintro e w5 ⟨rfl, rfl⟩
         rw [← hE.out, ← hO.out]
         have hq : ((E : Int) == (i : Int) + (E : Int) - (i : Int)) = true := beq_iff_eq.2 (by omega)
         go_wp2
         go_ret
         exact ⟨by simp, B3⟩)
    · have hin : i = n := by omega
      subst hin
      go_wp2_with fail
      refine (zzskip_zero _ _ _ (zs.drop i) _ (view_none (by omega) (by simp [HL.out])) (by omega)).mono ?_
      rintro e w5 ⟨rfl, rfl⟩
      rw [← hE.out, ← hO.out]
      have hq : ((E : Int) == (i : Int) + (E : Int) - (i : Int)) = true := beq_iff_eq.2 (by omega)
      go_wp2
      go_ret
      exact ⟨by simp, B3⟩

set_option maxHeartbeats 6400000 in
theorem cut_any (ad : Option Addr) (n c : Nat) (zs : List Int) (i : Nat) (k : Int) (w : World) (hv : View w ad n zs) (hnil : ad = none → n = 0 ∧ c = 0) (hm : n ≤ 65536) (hi : i ≤ n) :
    Calls Try.prog 4 #[.slice ad n c, .int .i64 (i : Int), .int .i64 k] w fun e w' => e = .returned (.bool true) ∧ Below w.heap.size w w' := by
  obtain ⟨i0, hi0, hz0, hz1, hz2⟩ := info_parts info5
  have hd : decide (n ≤ 1048576) = true := decide_eq_true (by omega)
  have hd2 : decide ((65536 : Int) < (n : Int)) = false := decide_eq_false (by omega)
  have hd3 : decide ((i : Int) < 0) = false := decide_eq_false (by omega)
  have hd4 : decide ((n : Int) < (i : Int)) = false := decide_eq_false (by omega)
  have hd5 : decide (n < i) = false := decide_eq_false (by omega)
  have q22 := notNil
  have HV := hid hv
  have HL : Hid (zs.length = n) := hv.1
  have hA := A_le 0 zs i (by rw [HL.out]; exact hi)
  rw [HL.out] at hA
  clear hv
  cases ad
  case' none =>
    have hn0 : n ≤ 0 := by have := (hnil rfl).1; omega
    clear hnil
    go_enter Try.func4, Try.ntmps4
    go_wp2_with fail
    refine (bytes10 _ _ _ _ _ _ (by omega)).mono ?_
    rintro e w1 ⟨rfl, rfl⟩
    have V := HV
    have B3 := Below.refl w1.heap.size w1
  case' some x =>
    clear hnil
    go_enter Try.func4, Try.ntmps4
    go_wp2_with fail
    refine (bytes10 _ _ _ _ _ _ (by omega)).mono ?_
    rintro e w1 ⟨rfl, rfl⟩
    go_wp2_with (at_make; refine wpList_make_full _ rfl _ _ 22 rfl w1.heap.size 5 i0 (.int .u8 0) 1 Try.underlying22 hi0 hz0 hz1 _ _ _ _ n rfl rfl rfl rfl (by rw [hz2]; omega) (by unfold maxLen; omega) (Nat.le_refl _) ?_; intro w2 hown2 hgrow2; refine Hid.out ?_)
    refine hid ?_
    have B2 : Below w1.heap.size w1 w2 := (Below.refl _ _).grown hgrow2 (Nat.le_refl _) (fun k h => by cases h)
    have G2 := hid (own_block hown2)
    have hlen : (madeCells (Value.int .u8 0).cells (n * 1)).toList.length = n := by have := hown2.1; omega
    obtain ⟨cur, HC⟩ : ∃ cur, Hid (cur = (madeCells (Value.int .u8 0).cells (n * 1)).toList) := ⟨_, rfl⟩
    rw [← HC.out] at G2 hlen
    have hcl : (cells zs).length = n := by simp [cells, HL.out]
    clear hown2 hgrow2
    go_wp2_with (first | (refine wpList_copy_splice rfl (.tmp 29) (.tmp 30) 22 22 rfl 5 Try.underlying22 info5s _ _ _ _ _ _ rfl rfl w1.heap.size 0 cur 5 G2.out (cells zs) (by rw [hcl]; simp) (fun h => ⟨rfl, view_src HV.out B2 (by rw [hcl] at h; rw [HL.out]; exact h)⟩) (by omega) (cells_one zs) w1.heap.size w1 B2 (Nat.le_refl _) ?_; intro w3 hg3 B3; refine Hid.out ?_))
    refine hid ?_
    have V : Hid (View w3 (some ⟨w1.heap.size, 0, none⟩) n zs) := by
      have h := hg3.out
      rw [splice_all (by rw [hlen, hcl])] at h
      have := block_view h
      rw [HL.out] at this
      exact this
    clear hg3 HC G2 hlen hcl B2
  all_goals
    clear HV
    go_wp2_with fail
    refine (zzskip_any _ _ _ zs i _ V.out (by omega) hi).mono ?_
    rintro e w4 ⟨rfl, rfl⟩
    go_wp2_with fail
    refine (long_any _ _ _ zs i _ V.out (by omega) hi).mono ?_
    rintro e w4 ⟨rfl, rfl⟩
    have HCUT := hid (A_cut zs i)
    obtain ⟨E, hE⟩ : ∃ E, Hid (E = (A 0 zs i).1) := ⟨_, rfl⟩
    obtain ⟨O, hO⟩ : ∃ O, Hid (O = (A 0 zs i).2) := ⟨_, rfl⟩
    rw [← hE.out] at hA
    rw [← hE.out, ← hO.out]
    obtain ⟨hA1, hA2⟩ := hA
    have hEE : ((E : Int) != (E : Int)) = false := by simp
    have hOO : (O != O) = false := by simp
    by_cases hk1 : k < (E : Int)
    · have hb1 : decide (k < (E : Int)) = true := decide_eq_true hk1
      go_wp2
      go_ret
      exact ⟨rfl, B3⟩
    · have hb1 : decide (k < (E : Int)) = false := decide_eq_false hk1
      by_cases hk2 : (n : Int) < k
      · have hb2 : decide ((n : Int) < k) = true := decide_eq_true hk2
        go_wp2
        go_ret
        exact ⟨rfl, B3⟩
      · obtain ⟨C, rfl⟩ : ∃ C : Nat, k = (C : Int) := ⟨k.toNat, by omega⟩
        have hb2 : decide ((n : Int) < (C : Int)) = false := decide_eq_false hk2
        have hb3 : decide (C < E) = false := decide_eq_false (by omega)
        have hb4 : decide (n < C) = false := decide_eq_false (by omega)
        have hCn : C ≤ n := by omega
        have hiC : i ≤ C := by omega
        have hEC : E ≤ C := by omega
        clear hk1 hk2
        go_wp2_with fail
        refine (zzskip_any _ _ _ (zs.take C) i _ (view_take V.out hCn) (by omega) hiC).mono ?_
        rintro e w5 ⟨rfl, rfl⟩
        rw [HCUT.out C (by rw [HL.out]; exact hi) (by rw [← hE.out]; exact hEC), ← hE.out, ← hO.out]
        have hee : ((E : Int) == (E : Int)) = true := by simp
        go_wp2
        go_ret
        exact ⟨by simp, B3⟩

set_option maxHeartbeats 6400000 in
theorem shift_far (ad : Option Addr) (n c : Nat) (zs : List Int) (i : Int) (w : World) (hv : View w ad n zs) (hnil : ad = none → n = 0 ∧ c = 0) (hm : n ≤ 65536) (hi : (n : Int) < i) :
    Calls Try.prog 3 #[.slice ad n c, .int .i64 i] w fun e w' => e = .returned (.bool true) ∧ Below w.heap.size w w' := by
  obtain ⟨i0, hi0, hz0, hz1, hz2⟩ := info_parts info5
  have hd : decide (n ≤ 1048576) = true := decide_eq_true (by omega)
  have hd2 : decide ((65536 : Int) < (n : Int)) = false := decide_eq_false (by omega)
  have hd3 : decide (i < 0) = false := decide_eq_false (by omega)
  have hd4 : decide ((n : Int) < i) = true := decide_eq_true hi
  have q22 := notNil
  have HV := hid hv
  have HL : Hid (zs.length = n) := hv.1
  clear hv
  cases ad
  case' none =>
    have hn0 : n ≤ 0 := by have := (hnil rfl).1; omega
    clear hnil
    go_enter Try.func3, Try.ntmps3
    go_wp2_with fail
    refine (bytes7 _ _ _ _ _ (by omega)).mono ?_
    rintro e w1 ⟨rfl, rfl⟩
    have V := HV
    have B3 := Below.refl w1.heap.size w1
  case' some x =>
    clear hnil
    go_enter Try.func3, Try.ntmps3
    go_wp2_with fail
    refine (bytes7 _ _ _ _ _ (by omega)).mono ?_
    rintro e w1 ⟨rfl, rfl⟩
    go_wp2_with (at_make; refine wpList_make_full _ rfl _ _ 22 rfl w1.heap.size 5 i0 (.int .u8 0) 1 Try.underlying22 hi0 hz0 hz1 _ _ _ _ n rfl rfl rfl rfl (by rw [hz2]; omega) (by unfold maxLen; omega) (Nat.le_refl _) ?_; intro w2 hown2 hgrow2; refine Hid.out ?_)
    refine hid ?_
    have B2 : Below w1.heap.size w1 w2 := (Below.refl _ _).grown hgrow2 (Nat.le_refl _) (fun k h => by cases h)
    have G2 := hid (own_block hown2)
    have hlen : (madeCells (Value.int .u8 0).cells (n * 1)).toList.length = n := by have := hown2.1; omega
    obtain ⟨cur, HC⟩ : ∃ cur, Hid (cur = (madeCells (Value.int .u8 0).cells (n * 1)).toList) := ⟨_, rfl⟩
    rw [← HC.out] at G2 hlen
    have hcl : (cells zs).length = n := by simp [cells, HL.out]
    clear hown2 hgrow2
    go_wp2_with (first | (refine wpList_copy_splice rfl (.tmp 26) (.tmp 27) 22 22 rfl 5 Try.underlying22 info5s _ _ _ _ _ _ rfl rfl w1.heap.size 0 cur 5 G2.out (cells zs) (by rw [hcl]; simp) (fun h => ⟨rfl, view_src HV.out B2 (by rw [hcl] at h; rw [HL.out]; exact h)⟩) (by omega) (cells_one zs) w1.heap.size w1 B2 (Nat.le_refl _) ?_; intro w3 hg3 B3; refine Hid.out ?_))
    refine hid ?_
    have V : Hid (View w3 (some ⟨w1.heap.size, 0, none⟩) n zs) := by
      have h := hg3.out
      rw [splice_all (by rw [hlen, hcl])] at h
      have := block_view h
      rw [HL.out] at this
      exact this
    clear hg3 HC G2 hlen hcl B2
  all_goals
    clear HV
    go_wp2_with fail
    refine (zzskip_big _ _ _ i _ (by omega)).mono ?_
    rintro e w4 ⟨rfl, rfl⟩
    go_wp2_with fail
    refine (long_big _ _ _ i _ (by omega)).mono ?_
    rintro e w4 ⟨rfl, rfl⟩
    have hii : (i != i) = false := by simp
    go_wp2
    go_ret
    exact ⟨rfl, B3⟩

set_option maxHeartbeats 6400000 in
theorem cut_far (ad : Option Addr) (n c : Nat) (zs : List Int) (i : Int) (k : Int) (w : World) (hv : View w ad n zs) (hnil : ad = none → n = 0 ∧ c = 0) (hm : n ≤ 65536) (hi : (n : Int) < i) :
    Calls Try.prog 4 #[.slice ad n c, .int .i64 i, .int .i64 k] w fun e w' => e = .returned (.bool true) ∧ Below w.heap.size w w' := by
  obtain ⟨i0, hi0, hz0, hz1, hz2⟩ := info_parts info5
  have hd : decide (n ≤ 1048576) = true := decide_eq_true (by omega)
  have hd2 : decide ((65536 : Int) < (n : Int)) = false := decide_eq_false (by omega)
  have hd3 : decide (i < 0) = false := decide_eq_false (by omega)
  have hd4 : decide ((n : Int) < i) = true := decide_eq_true hi
  have q22 := notNil
  have HV := hid hv
  have HL : Hid (zs.length = n) := hv.1
  clear hv
  cases ad
  case' none =>
    have hn0 : n ≤ 0 := by have := (hnil rfl).1; omega
    clear hnil
    go_enter Try.func4, Try.ntmps4
    go_wp2_with fail
    refine (bytes10 _ _ _ _ _ _ (by omega)).mono ?_
    rintro e w1 ⟨rfl, rfl⟩
    have V := HV
    have B3 := Below.refl w1.heap.size w1
  case' some x =>
    clear hnil
    go_enter Try.func4, Try.ntmps4
    go_wp2_with fail
    refine (bytes10 _ _ _ _ _ _ (by omega)).mono ?_
    rintro e w1 ⟨rfl, rfl⟩
    go_wp2_with (at_make; refine wpList_make_full _ rfl _ _ 22 rfl w1.heap.size 5 i0 (.int .u8 0) 1 Try.underlying22 hi0 hz0 hz1 _ _ _ _ n rfl rfl rfl rfl (by rw [hz2]; omega) (by unfold maxLen; omega) (Nat.le_refl _) ?_; intro w2 hown2 hgrow2; refine Hid.out ?_)
    refine hid ?_
    have B2 : Below w1.heap.size w1 w2 := (Below.refl _ _).grown hgrow2 (Nat.le_refl _) (fun k h => by cases h)
    have G2 := hid (own_block hown2)
    have hlen : (madeCells (Value.int .u8 0).cells (n * 1)).toList.length = n := by have := hown2.1; omega
    obtain ⟨cur, HC⟩ : ∃ cur, Hid (cur = (madeCells (Value.int .u8 0).cells (n * 1)).toList) := ⟨_, rfl⟩
    rw [← HC.out] at G2 hlen
    have hcl : (cells zs).length = n := by simp [cells, HL.out]
    clear hown2 hgrow2
    go_wp2_with (first | (refine wpList_copy_splice rfl (.tmp 29) (.tmp 30) 22 22 rfl 5 Try.underlying22 info5s _ _ _ _ _ _ rfl rfl w1.heap.size 0 cur 5 G2.out (cells zs) (by rw [hcl]; simp) (fun h => ⟨rfl, view_src HV.out B2 (by rw [hcl] at h; rw [HL.out]; exact h)⟩) (by omega) (cells_one zs) w1.heap.size w1 B2 (Nat.le_refl _) ?_; intro w3 hg3 B3; refine Hid.out ?_))
    refine hid ?_
    have V : Hid (View w3 (some ⟨w1.heap.size, 0, none⟩) n zs) := by
      have h := hg3.out
      rw [splice_all (by rw [hlen, hcl])] at h
      have := block_view h
      rw [HL.out] at this
      exact this
    clear hg3 HC G2 hlen hcl B2
  all_goals
    clear HV
    go_wp2_with fail
    refine (zzskip_big _ _ _ i _ (by omega)).mono ?_
    rintro e w4 ⟨rfl, rfl⟩
    go_wp2_with fail
    refine (long_big _ _ _ i _ (by omega)).mono ?_
    rintro e w4 ⟨rfl, rfl⟩
    have hii : (i != i) = false := by simp
    by_cases hk1 : k < i
    · have hb1 : decide (k < i) = true := decide_eq_true hk1
      go_wp2
      go_ret
      exact ⟨rfl, B3⟩
    · have hb1 : decide (k < i) = false := decide_eq_false hk1
      have hb2 : decide ((n : Int) < k) = true := decide_eq_true (by omega)
      go_wp2
      go_ret
      exact ⟨rfl, B3⟩

end Go.Proofs.Qxb6617975a.Num
