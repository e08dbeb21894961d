/- The walk of FnSkipColonInsertBlank. -/
import Derived.Test.Qxb6617975aColRestart
import Derived.RegionTactic
namespace Go.Proofs.Qxb6617975a.Col
open Go.RowKit
set_option linter.unusedVariables false

theorem src_take {w : World} {b off n : Nat} {zs : List Int} (hv : View w (some ⟨b, off, none⟩) n zs) (q : Nat) : ∀ (j : Nat) (u : Value), (cells (zs.take q))[j]? = some u → w.cell? ((⟨b, off, none⟩ : Addr).add j) = some u := by
  intro j u hj
  have hjl : j < (zs.take q).length := by
    have := (List.getElem?_eq_some_iff.1 hj).1
    simpa [cells] using this
  have hjz : j < zs.length := by simp at hjl; omega
  obtain ⟨b', off', e, hb', hkl, hc⟩ := hv.at j (by have := hv.1; omega)
  obtain ⟨rfl, rfl⟩ : b = b' ∧ off = off' := ⟨congrArg Addr.block (Option.some.inj e), congrArg Addr.off (Option.some.inj e)⟩
  rw [Go.WideShapes.add_plain, hc]
  simp only [cells, List.getElem?_map, List.getElem?_eq_getElem hjl, Option.map_some, List.getElem_take] at hj
  exact hj

theorem src_drop {w : World} {b off n : Nat} {zs : List Int} (hv : View w (some ⟨b, off, none⟩) n zs) (q : Nat) : ∀ (j : Nat) (u : Value), (cells (zs.drop q))[j]? = some u → w.cell? ((⟨b, off + q, none⟩ : Addr).add j) = some u := by
  intro j u hj
  have hjl : j < (zs.drop q).length := by
    have := (List.getElem?_eq_some_iff.1 hj).1
    simpa [cells] using this
  have hjz : q + j < zs.length := by simp at hjl; omega
  obtain ⟨b', off', e, hb', hkl, hc⟩ := hv.at (q + j) (by have := hv.1; omega)
  obtain ⟨rfl, rfl⟩ : b = b' ∧ off = off' := ⟨congrArg Addr.block (Option.some.inj e), congrArg Addr.off (Option.some.inj e)⟩
  rw [Go.WideShapes.add_plain, Nat.add_assoc, hc]
  simp only [cells, List.getElem?_map, List.getElem?_eq_getElem hjl, Option.map_some, List.getElem_drop] at hj
  exact hj

/-- The three steps lay the text with z put in. -/
theorem ins_cells (cur0 : List Value) (zs : List Int) (q : Nat) (z : Int) (h0 : cur0.length = zs.length + 1) (hq : q ≤ zs.length) :
    splice ((splice cur0 0 (cells (zs.take q))).set q (.int .u8 z)) (q + 1) (cells (zs.drop q)) = cells (ins zs q z) := by
  have hA : (cells (zs.take q)).length = q := by simp [cells]; omega
  have e1 : splice cur0 0 (cells (zs.take q)) = cells (zs.take q) ++ cur0.drop q := by simp [splice, hA]
  have e2 : cur0.drop q = cur0[q] :: cur0.drop (q + 1) := List.drop_eq_getElem_cons (by omega)
  have e3 : (cells (zs.take q) ++ cur0.drop q).set q (.int .u8 z) = cells (zs.take q) ++ Value.int .u8 z :: cur0.drop (q + 1) := by
    rw [List.set_append_right _ _ (by omega), hA, Nat.sub_self, e2]
    rfl
  rw [e1, e3]
  unfold splice
  have hB : (cells (zs.drop q)).length = zs.length - q := by simp [cells]
  have e4 : (cells (zs.take q) ++ Value.int .u8 z :: cur0.drop (q + 1)).take (q + 1) = cells (zs.take q) ++ [Value.int .u8 z] := by
    rw [List.take_append, hA, List.take_of_length_le (by omega), show q + 1 - q = 1 from by omega]
    rfl
  have e5 : (cells (zs.take q) ++ Value.int .u8 z :: cur0.drop (q + 1)).drop (q + 1 + (cells (zs.drop q)).length) = [] := by
    apply List.drop_eq_nil_of_le
    simp [hA, hB]
    omega
  rw [e4, e5]
  simp [cells, ins]

set_option maxHeartbeats 6400000 in
theorem insert_some (ad : Option Addr) (n c : Nat) (zs : List Int) (i : Nat) (q z : Int) (w : World) (hv : View w ad n zs) (hsome : ad ≠ none) (hm : n ≤ 65536) (hi : i ≤ n) :
    Calls Try.prog 6 #[.slice ad n c, .int .i64 (i : Int), .int .i64 q, .int .u8 z] w fun e w' => e = .returned (.bool true) ∧ Below w.heap.size w w' := by
  obtain ⟨i0, hi0, hz0, hz1, hz2⟩ := info_parts info5
  have hd : decide (n ≤ 1048576) = true := decide_eq_true (by omega)
  have hd2 : decide ((65536 : Int) < (n : Int)) = false := decide_eq_false (by omega)
  have hd3 : decide ((i : Int) < 0) = false := decide_eq_false (by omega)
  have hd4 : decide ((n : Int) < (i : Int)) = false := decide_eq_false (by omega)
  have q22 := notNil
  have HV := hid hv
  have HL : Hid (zs.length = n) := hv.1
  have HE := endAt_le zs i (by rw [HL.out]; exact hi)
  rw [HL.out] at HE
  clear hv
  obtain ⟨x, rfl⟩ := Option.ne_none_iff_exists'.1 hsome
  clear hsome
  go_enter Try.func6, Try.ntmps6
  go_wp2_with fail
  refine (bytes15 _ _ _ _ _ _ _ (by omega)).mono ?_
  rintro e w1 ⟨rfl, rfl⟩
  go_wp2_with (at_make; refine wpList_make_full _ rfl _ _ 22 rfl w1.heap.size 5 i0 (.int .u8 0) 1 Try.underlying22 hi0 hz0 hz1 _ _ _ _ n rfl rfl rfl rfl (by rw [hz2]; omega) (by unfold maxLen; omega) (Nat.le_refl _) ?_; intro w2 hown2 hgrow2; refine Hid.out ?_)
  refine hid ?_
  have B2 : Below w1.heap.size w1 w2 := (Below.refl _ _).grown hgrow2 (Nat.le_refl _) (fun k h => by cases h)
  have G2 := hid (own_block hown2)
  have hlen : (madeCells (Value.int .u8 0).cells (n * 1)).toList.length = n := by have := hown2.1; omega
  obtain ⟨cur, HC⟩ : ∃ cur, Hid (cur = (madeCells (Value.int .u8 0).cells (n * 1)).toList) := ⟨_, rfl⟩
  rw [← HC.out] at G2 hlen
  have hcl : (cells zs).length = n := by simp [cells, HL.out]
  clear hown2 hgrow2
  go_wp2_with (first | (refine wpList_copy_splice rfl (.tmp 39) (.tmp 40) 22 22 rfl 5 Try.underlying22 info5s _ _ _ _ _ _ rfl rfl w1.heap.size 0 cur 5 G2.out (cells zs) (by rw [hcl]; simp) (fun h => ⟨rfl, view_src HV.out B2 (by rw [hcl] at h; rw [HL.out]; exact h)⟩) (by omega) (cells_one zs) w1.heap.size w1 B2 (Nat.le_refl _) ?_; intro w3 hg3 B3; refine Hid.out ?_))
  refine hid ?_
  have V : Hid (View w3 (some ⟨w1.heap.size, 0, none⟩) n zs) := by
    have h := hg3.out
    rw [splice_all (by rw [hlen, hcl])] at h
    have := block_view h
    rw [HL.out] at this
    exact this
  clear hg3 HC G2 hlen hcl B2
  clear HV
  go_wp2_with fail
  refine (zzcolon_any _ _ _ zs i _ V.out (by omega) hi).mono ?_
  rintro e w4 ⟨rfl, rfl⟩
  go_wp2_with fail
  refine (model_any _ _ _ zs i _ V.out (by omega) hi).mono ?_
  rintro e w4 ⟨rfl, rfl⟩
  obtain ⟨E, hE⟩ : ∃ E, Hid (E = endAt zs i) := ⟨_, rfl⟩
  obtain ⟨O, hO⟩ : ∃ O, Hid (O = okAt zs i) := ⟨_, rfl⟩
  rw [← hE.out, ← hO.out]
  have hEE : ((E : Int) != (E : Int)) = false := by simp
  have hOO : (O != O) = false := by simp
  have hEn : E ≤ n := by rw [hE.out]; exact HE
  have hiE : i ≤ E := by rw [hE.out]; exact le_endAt zs i
  by_cases hqi : q < i
  · have hk1 : decide (q < (i : Int)) = true := decide_eq_true hqi
    go_wp2
    go_ret
    exact ⟨rfl, B3⟩
  · have hk1 : decide (q < (i : Int)) = false := decide_eq_false hqi
    by_cases hqE : (E : Int) < q
    · have hk2 : decide ((E : Int) < q) = true := decide_eq_true hqE
      go_wp2
      go_ret
      exact ⟨rfl, B3⟩
    · have hk2 : decide ((E : Int) < q) = false := decide_eq_false hqE
      cases hbl : blank z
      · go_wp2_with (go_at_call 14; refine (blank_any _ _).mono ?_; rintro e w' ⟨rfl, rfl⟩)
        go_ret
        exact ⟨rfl, B3⟩
      · obtain ⟨Q, rfl⟩ : ∃ Q : Nat, q = (Q : Int) := ⟨q.toNat, by omega⟩
        have hk3 : decide (Q < i) = false := decide_eq_false (by omega)
        have hk4 : decide (E < Q) = false := decide_eq_false (by omega)
        have hQE : Q ≤ E := by omega
        have hiQ : i ≤ Q := by omega
        have hQn : Q ≤ n := by omega
        clear hqi hqE
        go_wp2_with (first | (go_at_call 14; refine (blank_any _ _).mono ?_; rintro e w' ⟨rfl, rfl⟩) | (at_make; refine wpList_make_full _ rfl (.tmp 78) (.tmp 78) 22 rfl _ 5 i0 (.int .u8 0) 1 Try.underlying22 hi0 hz0 hz1 _ _ _ _ (n + 1) rfl rfl (by omega) (by omega) (by rw [hz2]; omega) (by unfold maxLen; omega) (Nat.le_refl _) ?_; intro w5 hown5 hgrow5; refine Hid.out ?_))
        refine hid ?_
        have B5 : Below w'.heap.size w' w5 := (Below.refl _ _).grown hgrow5 (Nat.le_refl _) (fun k h => by cases h)
        have V5 := hid (view_below V.out B5)
        have G5 := hid (own_block hown5)
        have hlen5 : (madeCells (Value.int .u8 0).cells ((n + 1) * 1)).toList.length = n + 1 := by have := hown5.1; omega
        obtain ⟨cur0, HC0⟩ : ∃ cur0, Hid (cur0 = (madeCells (Value.int .u8 0).cells ((n + 1) * 1)).toList) := ⟨_, rfl⟩
        rw [← HC0.out] at G5 hlen5
        clear hown5 hgrow5 HC0
        go_wp2
        have hq1 : (Q : Int) ≤ (n : Int) + 1 := by omega
        have hq2 : (Q : Int) ≤ (n : Int) := by omega
        have hcl1 : (cells (zs.take Q)).length = Q := by simp [cells, HL.out]; omega
        have HB := hid hbl
        clear hd hd2 hd3 hd4 hk1 hk2 hk3 hk4 hEE hOO hbl q22
        go_region_law (refine step_copy_splice (by rfl) (.tmp 82) (.tmp 85) 22 22 (by rfl) 5 Try.underlying22 info5s (some ⟨w'.heap.size, 0, none⟩) (some ⟨w1.heap.size, 0, none⟩) Q (n + 1) Q n (by go_simp) (by go_simp) w'.heap.size 0 cur0 5 G5.out (cells (zs.take Q)) (by rw [hcl1]; simp) (fun h => ⟨rfl, _, rfl, src_take V5.out Q⟩) (by omega) (cells_one _) w'.heap.size w' B5.drew (Nat.le_refl _) ?_; intro w6 hg6 B6)
        have V6 := hid (view_below V.out B6)
        obtain ⟨cur1, HC1⟩ : ∃ cur1, Hid (cur1 = splice cur0 0 (cells (zs.take Q))) := ⟨_, rfl⟩
        have hlen1 : cur1.length = n + 1 := by rw [HC1.out, length_splice _ _ _ (by omega)]; exact hlen5
        rw [← HC1.out] at hg6
        obtain ⟨old, hcq⟩ : ∃ old, w6.cell? ⟨w'.heap.size, Q, none⟩ = some old := by
          rw [cell_of_row w6 _ Q _ 5 (0, 0) hg6.out]
          exact ⟨_, Array.getElem?_eq_getElem (by simp; omega)⟩
        have hfq : w6.frozen? ⟨w'.heap.size, Q, none⟩ = false := frozen_of_row w6 _ Q _ 5 hg6.out
        have B7 := B6.setCell (p := ⟨w'.heap.size, Q, none⟩) (Nat.le_refl _) (.int .u8 z)
        have G7 : Hid ((w6.setCell ⟨w'.heap.size, Q, none⟩ (.int .u8 z)).heap[w'.heap.size]? = some (.cells (cur1.set Q (.int .u8 z)).toArray 5 (0, 0))) := by
          show _ = _
          rw [heap_setCell_same w6 _ Q _ 5 _ hg6.out]
          simp
        have V7 := hid (view_below V.out B7)
        clear B5 V5 G5 B6 V6 hcl1
        go_wp2
        generalize w6.setCell ⟨w'.heap.size, Q, none⟩ (.int .u8 z) = w7 at G7 B7 V7 ⊢
        have hcl2 : (cells (zs.drop Q)).length = n - Q := by simp [cells, HL.out]
        have hq3 : (Q : Int) + 1 ≤ (n : Int) + 1 := by omega
        have hwr : IntKind.i64.wrap ((Q : Int) + 1) = (Q : Int) + 1 := by rw [IntKind.wrap_i64]; omega
        have hp0 : (0 : Int) ≤ (Q : Int) + 1 := by omega
        clear hcq hfq hg6
        by_cases hlt : Q < n
        · have hne1 : ¬ n + 1 = Q + 1 := by omega
          have hne2 : ¬ n = Q := by omega
          go_region_law (refine step_copy_splice (by rfl) (.tmp 94) (.tmp 97) 22 22 (by rfl) 5 Try.underlying22 info5s (some ⟨w'.heap.size, Q + 1, none⟩) (some ⟨w1.heap.size, Q, none⟩) (n - Q) (n - Q) (n - Q) (n - Q) (by go_simp) (by go_simp) w'.heap.size (Q + 1) (cur1.set Q (.int .u8 z)) 5 G7.out (cells (zs.drop Q)) (by rw [hcl2]; simp) (fun h => ⟨rfl, _, rfl, by simpa using src_drop V7.out Q⟩) (by simp; omega) (cells_one _) w'.heap.size w' B7.drew (Nat.le_refl _) ?_; intro w8 hg8 B8)
          have V8 : Hid (View w8 (some ⟨w'.heap.size, 0, none⟩) (n + 1) (ins zs Q z)) := by
            have h := hg8.out
            rw [HC1.out, ins_cells cur0 zs Q z (by rw [HL.out]; exact hlen5) (by rw [HL.out]; omega)] at h
            have h2 := block_view h
            have e : (ins zs Q z).length = n + 1 := by unfold ins; simp [HL.out]; omega
            rw [e] at h2
            exact h2
          have A8 := hid (at_ins zs i Q z HB.out (by rw [HL.out]; exact hi) hiQ (by rw [← hE.out]; exact hQE))
          clear hg8 G7 V7 B7
          go_wp2_with fail
          refine (zzcolon_any _ _ _ (ins zs Q z) i _ V8.out (by omega) (by omega)).mono ?_
          rintro e w9 ⟨rfl, rfl⟩
          rw [A8.out.1, A8.out.2, ← hE.out, ← hO.out]
          rw [show (((E + 1 : Nat)) : Int) = (E : Int) + 1 from by omega]
          have hee : ((E : Int) + 1 == (E : Int) + 1) = true := by simp
          go_wp2
          go_ret
          exact ⟨by simp, B3.trans (B8.mono B3.size)⟩
        · have hQn' : Q = n := by omega
          subst hQn'
          go_region_law (refine step_copy_splice (by rfl) (.tmp 94) (.tmp 97) 22 22 (by rfl) 5 Try.underlying22 info5s (some ⟨w'.heap.size, 0, none⟩) (some ⟨w1.heap.size, 0, none⟩) 0 0 0 0 (by go_simp) (by go_simp) w'.heap.size (Q + 1) (cur1.set Q (.int .u8 z)) 5 G7.out (cells (zs.drop Q)) (by rw [hcl2]; simp) (fun h => by omega) (by simp; omega) (cells_one _) w'.heap.size w' B7.drew (Nat.le_refl _) ?_; intro w8 hg8 B8)
          have V8 : Hid (View w8 (some ⟨w'.heap.size, 0, none⟩) (Q + 1) (ins zs Q z)) := by
            have h := hg8.out
            rw [HC1.out, ins_cells cur0 zs Q z (by rw [HL.out]; exact hlen5) (by rw [HL.out]; omega)] at h
            have h2 := block_view h
            have e : (ins zs Q z).length = Q + 1 := by unfold ins; simp [HL.out]
            rw [e] at h2
            exact h2
          have A8 := hid (at_ins zs i Q z HB.out (by rw [HL.out]; exact hi) hiQ (by rw [← hE.out]; exact hQE))
          clear hg8 G7 V7 B7
          go_wp2_with fail
          refine (zzcolon_any _ _ _ (ins zs Q z) i _ V8.out (by omega) (by omega)).mono ?_
          rintro e w9 ⟨rfl, rfl⟩
          rw [A8.out.1, A8.out.2, ← hE.out, ← hO.out]
          rw [show (((E + 1 : Nat)) : Int) = (E : Int) + 1 from by omega]
          have hee : ((E : Int) + 1 == (E : Int) + 1) = true := by simp
          go_wp2
          go_ret
          exact ⟨by simp, B3.trans (B8.mono B3.size)⟩

set_option maxHeartbeats 3200000 in
theorem insert_nil (q z : Int) (w : World) :
    Calls Try.prog 6 #[.slice none (0 : Nat) (0 : Nat), .int .i64 0, .int .i64 q, .int .u8 z] w fun e w' => e = .returned (.bool true) ∧ Below w.heap.size w w' := by
  obtain ⟨i0, hi0, hz0, hz1, hz2⟩ := info_parts info5
  have hd : decide (0 ≤ 1048576) = true := rfl
  have q22 := notNil
  have V : Hid (View w none 0 []) := ⟨rfl, .inl rfl⟩
  go_enter Try.func6, Try.ntmps6
  go_wp2_with fail
  refine (bytes15 _ 0 0 _ _ _ _ (by omega)).mono ?_
  rintro e w1 ⟨rfl, rfl⟩
  go_wp2_with fail
  refine (zzcolon_any _ 0 0 [] 0 _ V.out (by omega) (by omega)).mono ?_
  rintro e w1 ⟨rfl, rfl⟩
  rw [show endAt [] 0 = 0 from rfl, show okAt [] 0 = false from rfl]
  go_wp2_with fail
  refine (model_any _ 0 0 [] 0 _ V.out (by omega) (by omega)).mono ?_
  rintro e w1 ⟨rfl, rfl⟩
  rw [show endAt [] 0 = 0 from rfl, show okAt [] 0 = false from rfl]
  by_cases hqi : q < 0
  · have hk1 : decide (q < 0) = true := decide_eq_true hqi
    go_wp2
    go_ret
    exact ⟨rfl, Below.refl _ _⟩
  · have hk1 : decide (q < 0) = false := decide_eq_false hqi
    by_cases hqE : 0 < q
    · have hk2 : decide (0 < q) = true := decide_eq_true hqE
      go_wp2
      go_ret
      exact ⟨rfl, Below.refl _ _⟩
    · have hk2 : decide (0 < q) = false := decide_eq_false hqE
      have hq0 : q = 0 := by omega
      subst hq0
      cases hbl : blank z
      · go_wp2_with (go_at_call 14; refine (blank_any _ _).mono ?_; rintro e w' ⟨rfl, rfl⟩)
        go_ret
        exact ⟨rfl, Below.refl _ _⟩
      · clear hqi hqE hk1 hk2
        go_wp2_with (first | (go_at_call 14; refine (blank_any _ _).mono ?_; rintro e w' ⟨rfl, rfl⟩) | (at_make; refine wpList_make_full _ rfl (.tmp 78) (.tmp 78) 22 rfl _ 5 i0 (.int .u8 0) 1 Try.underlying22 hi0 hz0 hz1 _ _ _ _ 1 rfl rfl rfl rfl (by rw [hz2]; omega) (by unfold maxLen; omega) (Nat.le_refl _) ?_; intro w5 hown5 hgrow5; refine Hid.out ?_))
        refine hid ?_
        have B5 : Below w'.heap.size w' w5 := (Below.refl _ _).grown hgrow5 (Nat.le_refl _) (fun k h => by cases h)
        have G5 := hid (own_block hown5)
        have hlen5 : (madeCells (Value.int .u8 0).cells (1 * 1)).toList.length = 1 := by have := hown5.1; omega
        obtain ⟨cur0, HC0⟩ : ∃ cur0, Hid (cur0 = (madeCells (Value.int .u8 0).cells (1 * 1)).toList) := ⟨_, rfl⟩
        rw [← HC0.out] at G5 hlen5
        have HB := hid hbl
        clear hown5 hgrow5 HC0 hbl q22 hd
        go_wp2
        go_region_law (refine step_copy_splice (by rfl) (.tmp 82) (.tmp 85) 22 22 (by rfl) 5 Try.underlying22 info5s (some ⟨w'.heap.size, 0, none⟩) none 0 1 0 0 (by go_simp) (by go_simp) w'.heap.size 0 cur0 5 G5.out (cells ([].take 0)) rfl (fun h => by simp [cells] at h) (by simp [cells]) (cells_one _) w'.heap.size w' B5.drew (Nat.le_refl _) ?_; intro w6 hg6 B6)
        obtain ⟨cur1, HC1⟩ : ∃ cur1, Hid (cur1 = splice cur0 0 (cells (([] : List Int).take 0))) := ⟨_, rfl⟩
        have hlen1 : cur1.length = 1 := by rw [HC1.out, length_splice _ _ _ (by simp [cells])]; exact hlen5
        rw [← HC1.out] at hg6
        obtain ⟨old, hcq⟩ : ∃ old, w6.cell? ⟨w'.heap.size, 0, none⟩ = some old := by
          rw [cell_of_row w6 _ 0 _ 5 (0, 0) hg6.out]
          exact ⟨_, Array.getElem?_eq_getElem (by simp; omega)⟩
        have hfq : w6.frozen? ⟨w'.heap.size, 0, none⟩ = false := frozen_of_row w6 _ 0 _ 5 hg6.out
        have B7 := B6.setCell (p := ⟨w'.heap.size, 0, none⟩) (Nat.le_refl _) (.int .u8 z)
        have G7 : Hid ((w6.setCell ⟨w'.heap.size, 0, none⟩ (.int .u8 z)).heap[w'.heap.size]? = some (.cells (cur1.set 0 (.int .u8 z)).toArray 5 (0, 0))) := by
          show _ = _
          rw [heap_setCell_same w6 _ 0 _ 5 _ hg6.out]
          simp
        clear B5 G5 B6
        go_wp2
        generalize w6.setCell ⟨w'.heap.size, 0, none⟩ (.int .u8 z) = w7 at G7 B7 ⊢
        clear hcq hfq hg6
        have hwr : IntKind.i64.wrap 1 = 1 := by rw [IntKind.wrap_i64]; omega
        go_region_law (refine step_copy_splice (by rfl) (.tmp 94) (.tmp 97) 22 22 (by rfl) 5 Try.underlying22 info5s (some ⟨w'.heap.size, 0, none⟩) none 0 0 0 0 (by go_simp) (by go_simp) w'.heap.size 1 (cur1.set 0 (.int .u8 z)) 5 G7.out (cells (([] : List Int).drop 0)) rfl (fun h => by simp [cells] at h) (by simp [cells]; omega) (cells_one _) w'.heap.size w' B7.drew (Nat.le_refl _) ?_; intro w8 hg8 B8)
        have V8 : Hid (View w8 (some ⟨w'.heap.size, 0, none⟩) 1 (ins [] 0 z)) := by
          have h := hg8.out
          rw [HC1.out, ins_cells cur0 [] 0 z hlen5 (Nat.le_refl _)] at h
          exact block_view h
        have A8 := hid (at_ins [] 0 0 z HB.out (Nat.le_refl _) (Nat.le_refl _) (Nat.le_refl _))
        clear hg8 G7 B7
        go_wp2_with fail
        refine (zzcolon_any _ 1 1 (ins [] 0 z) 0 _ V8.out (by omega) (by omega)).mono ?_
        rintro e w9 ⟨rfl, rfl⟩
        rw [A8.out.1, A8.out.2, show endAt [] 0 = 0 from rfl, show okAt [] 0 = false from rfl]
        go_wp2
        go_ret
        exact ⟨rfl, B8⟩

end Go.Proofs.Qxb6617975a.Col
