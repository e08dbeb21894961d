/- The walk of FnSkipColonGreatestBlankColonBlankAndRestart. -/
import Derived.Test.Qxb6617975aColModel
import Derived.Laws.CopyOwn
namespace Go.Proofs.Qxb6617975a.Col
open Go.RowKit
set_option linter.unusedVariables false

theorem own_block {w : World} {base g n : Nat} {xs : List Value} (h : w.ownsRow base 5 1 (.slice (some ⟨g, 0, none⟩) n n) n xs) : w.heap[g]? = some (.cells xs.toArray 5 (0, 0)) := by
  rcases h.2 with ⟨h', _⟩ | ⟨g', cap, cur, h', _, hg, _, _, hs, ht⟩
  · simp at h'
  · simp only [Value.slice.injEq, Option.some.injEq, Addr.mk.injEq, and_true, true_and] at h'
    obtain ⟨rfl, rfl⟩ := h'
    rw [hg, ← ht, List.take_of_length_le (by simp; omega)]

theorem splice_all {xs ys : List Value} (h : xs.length = ys.length) : splice xs 0 ys = ys := by
  simp [splice, ← h]

theorem cells_one (zs : List Int) : ∀ u ∈ cells zs, u.oneCell' = true := ints_oneCell _ _

theorem info5s : (Try.prog.info? 5).map (·.size) = some 1 := by kernel_rfl

/-- The cells of a view, in a later world. -/
theorem view_src {w w' : World} {ad : Option Addr} {n : Nat} {zs : List Int} (hv : View w ad n zs) (hb : Below w.heap.size w w') (h0 : 0 < zs.length) : ∃ x, ad = some x ∧ ∀ (j : Nat) (u : Value), (cells zs)[j]? = some u → w'.cell? (x.add j) = some u := by
  obtain ⟨b, off, rfl, hlt, -⟩ := hv.at 0 (by have := hv.1; omega)
  refine ⟨_, rfl, fun j u hj => ?_⟩
  have hjl : j < zs.length := by
    have := (List.getElem?_eq_some_iff.1 hj).1
    simpa [cells] using this
  obtain ⟨b', off', e, hb', hkl, hc⟩ := (view_below hv hb).at j (by have := hv.1; omega)
  obtain ⟨rfl, rfl⟩ : b = b' ∧ off = off' := ⟨congrArg Addr.block (Option.some.inj e), congrArg Addr.off (Option.some.inj e)⟩
  rw [Go.WideShapes.add_plain, hc]
  simpa [cells, hjl] using hj

set_option maxHeartbeats 6400000 in
theorem restart_any (ad : Option Addr) (n c : Nat) (zs : List Int) (i : Nat) (k : Int) (w : World) (hv : View w ad n zs) (hnil : ad = none → n = 0 ∧ c = 0) (hm : n ≤ 65536) (hi : i ≤ n) :
    Calls Try.prog 5 #[.slice ad n c, .int .i64 (i : Int), .int .i64 k] w fun e w' => e = .returned (.bool true) ∧ Below w.heap.size w w' := by
  obtain ⟨i0, hi0, hz0, hz1, hz2⟩ := info_parts info5
  have hd : decide (n ≤ 1048576) = true := decide_eq_true (by omega)
  have hd2 : decide ((65536 : Int) < (n : Int)) = false := decide_eq_false (by omega)
  have hd3 : decide ((i : Int) < 0) = false := decide_eq_false (by omega)
  have hd4 : decide ((n : Int) < (i : Int)) = false := decide_eq_false (by omega)
  have q22 := notNil
  have HV := hid hv
  have HL : Hid (zs.length = n) := hv.1
  have HE := endAt_le zs i (by rw [HL.out]; exact hi)
  rw [HL.out] at HE
  clear hv
  cases ad
  case' none =>
    have hn0 : n ≤ 0 := by have := (hnil rfl).1; omega
    clear hnil
    go_enter Try.func5, Try.ntmps5
    go_wp2_with fail
    refine (bytes11 _ _ _ _ _ _ (by omega)).mono ?_
    rintro e w1 ⟨rfl, rfl⟩
    have V := HV
    have B3 := Below.refl w1.heap.size w1
  case' some x =>
    clear hnil
    go_enter Try.func5, Try.ntmps5
    go_wp2_with fail
    refine (bytes11 _ _ _ _ _ _ (by omega)).mono ?_
    rintro e w1 ⟨rfl, rfl⟩
    go_wp2_with (at_make; refine wpList_make_full _ rfl _ _ 22 rfl w1.heap.size 5 i0 (.int .u8 0) 1 Try.underlying22 hi0 hz0 hz1 _ _ _ _ n rfl rfl rfl rfl (by rw [hz2]; omega) (by unfold maxLen; omega) (Nat.le_refl _) ?_; intro w2 hown2 hgrow2; refine Hid.out ?_)
    refine hid ?_
    have B2 : Below w1.heap.size w1 w2 := (Below.refl _ _).grown hgrow2 (Nat.le_refl _) (fun k h => by cases h)
    have G2 := hid (own_block hown2)
    have hlen : (madeCells (Value.int .u8 0).cells (n * 1)).toList.length = n := by have := hown2.1; omega
    obtain ⟨cur, HC⟩ : ∃ cur, Hid (cur = (madeCells (Value.int .u8 0).cells (n * 1)).toList) := ⟨_, rfl⟩
    rw [← HC.out] at G2 hlen
    have hcl : (cells zs).length = n := by simp [cells, HL.out]
    clear hown2 hgrow2
    go_wp2_with (first | (refine wpList_copy_splice rfl (.tmp 36) (.tmp 37) 22 22 rfl 5 Try.underlying22 info5s _ _ _ _ _ _ rfl rfl w1.heap.size 0 cur 5 G2.out (cells zs) (by rw [hcl]; simp) (fun h => ⟨rfl, view_src HV.out B2 (by rw [hcl] at h; rw [HL.out]; exact h)⟩) (by omega) (cells_one zs) w1.heap.size w1 B2 (Nat.le_refl _) ?_; intro w3 hg3 B3; refine Hid.out ?_))
    refine hid ?_
    have V : Hid (View w3 (some ⟨w1.heap.size, 0, none⟩) n zs) := by
      have h := hg3.out
      rw [splice_all (by rw [hlen, hcl])] at h
      have := block_view h
      rw [HL.out] at this
      exact this
    clear hg3 HC G2 hlen hcl B2
  all_goals
    clear HV
    go_wp2_with fail
    refine (zzcolon_any _ _ _ zs i _ V.out (by omega) hi).mono ?_
    rintro e w4 ⟨rfl, rfl⟩
    go_wp2_with fail
    refine (model_any _ _ _ zs i _ V.out (by omega) hi).mono ?_
    rintro e w4 ⟨rfl, rfl⟩
    obtain ⟨E, hE⟩ : ∃ E, Hid (E = endAt zs i) := ⟨_, rfl⟩
    obtain ⟨O, hO⟩ : ∃ O, Hid (O = okAt zs i) := ⟨_, rfl⟩
    rw [← hE.out, ← hO.out]
    have hEE : ((E : Int) != (E : Int)) = false := by simp
    have hOO : (O != O) = false := by simp
    by_cases hki : k < i
    · have hk1 : decide (k < (i : Int)) = true := decide_eq_true hki
      go_wp2
      go_ret
      exact ⟨rfl, B3⟩
    · have hk1 : decide (k < (i : Int)) = false := decide_eq_false hki
      by_cases hkn : (n : Int) < k
      · have hk2 : decide ((n : Int) < k) = true := decide_eq_true hkn
        go_wp2
        go_ret
        exact ⟨rfl, B3⟩
      · have hk2 : decide ((n : Int) < k) = false := decide_eq_false hkn
        obtain ⟨K, rfl⟩ : ∃ K : Nat, k = (K : Int) := ⟨k.toNat, by omega⟩
        have hKn : K ≤ n := by omega
        have hiK : i ≤ K := by omega
        have hk3 : decide (K < i) = false := decide_eq_false (by omega)
        have hk4 : decide (n < K) = false := decide_eq_false (by omega)
        clear hki hkn
        go_wp2_with fail
        go_loop [12] (fun x => ∃ p : Nat, i ≤ p ∧ p ≤ K ∧ x = .int .i64 p ∧ Hid (E = endAt zs p ∧ O = okAt zs p)) (fun x => K - (intOf x).toNat)
        case atStart => exact ⟨i, Nat.le_refl _, hiK, rfl, hE.out, hO.out⟩
        case round =>
          obtain ⟨p, hp1, hp2, rfl, hP⟩ := hrel
          by_cases hlt : p < K
          · first
            | (exfalso; omega)
            | (obtain ⟨b, off, hadr, hb, hpl, hcp⟩ := V.out.at p (by omega)
               cases hadr
               rw [Nat.zero_add] at hcp
               cases hbl : blank zs[p]
               · clear hP
                 go_wp2_with (go_at_call 14; refine (blank_any _ _).mono ?_; rintro e w' ⟨rfl, rfl⟩)
                 go_ret
                 exact ⟨rfl, B3⟩
               · have HF : Hid (E = endAt zs (p + 1) ∧ O = okAt zs (p + 1)) := by
                   have := at_blank zs p hpl hbl
                   exact ⟨by rw [hP.out.1, this.1], by rw [hP.out.2, this.2]⟩
                 clear hP
                 go_wp2_with (go_at_call 14; refine (blank_any _ _).mono ?_; rintro e w' ⟨rfl, rfl⟩)
                 go_round
                 case rel => exact ⟨p + 1, by omega, by omega, by go_num, HF⟩
                 case measure => simp [intOf]; omega)
          · have hpK : p = K := by omega
            subst hpK
            go_wp2_with fail
            refine (zzcolon_any _ _ _ zs p _ V.out (by omega) (by omega)).mono ?_
            rintro e w5 ⟨rfl, rfl⟩
            rw [← hP.out.1, ← hP.out.2]
            have hee : ((E : Int) == (E : Int)) = true := by simp
            go_wp2
            go_ret
            exact ⟨by simp, B3⟩

end Go.Proofs.Qxb6617975a.Col
