/- The walk of zzIsNormalNumeral. -/
import Derived.Test.Qxb6617859aCanClone
import Derived.Test.Qxb6617859aCanEq
namespace Go.Proofs.Qxb6617859a.Can
open Go.RowKit
set_option linter.unusedVariables false

/-- What the function answers when the sign has been looked at: the digits begin at s. -/
def core (zs : List Int) (s : Nat) (neg : Bool) : Bool := (zs.drop s).all dig && decide (norm neg (zs.drop s) = zs)

theorem nf_nil (ad : Option Addr) (c : Nat) (sg : Bool) (w : World) :
    Calls Try.prog 8 #[.slice ad (0 : Nat) c, .bool sg] w fun e w' => e = .returned (.bool false) ∧ w' = w := by
  cases sg
  · go_enter Try.func8, Try.ntmps8
    go_wp2
    go_ret
    exact ⟨rfl, rfl⟩
  · go_enter Try.func8, Try.ntmps8
    go_wp2
    go_ret
    exact ⟨rfl, rfl⟩

theorem nf_minus (b off c : Nat) (w : World) (hc : w.cell? ⟨b, off, none⟩ = some (.int .u8 45)) :
    Calls Try.prog 8 #[.slice (some ⟨b, off, none⟩) (1 : Nat) c, .bool true] w fun e w' => e = .returned (.bool false) ∧ w' = w := by
  go_enter Try.func8, Try.ntmps8
  go_wp2
  go_ret
  exact ⟨rfl, rfl⟩

/-- All from s to k are digits. -/
def DigTo (zs : List Int) (s k : Nat) : Prop := ((zs.drop s).take (k - s)).all dig = true
/-- All from s to k are zeros. -/
def ZeroTo (zs : List Int) (s k : Nat) : Prop := strip (zs.drop s) = strip (zs.drop k)

theorem drop_cons (zs : List Int) (k : Nat) (hk : k < zs.length) : zs.drop k = zs[k] :: zs.drop (k + 1) := List.drop_eq_getElem_cons hk

theorem digTo_step {zs : List Int} {s k : Nat} (hs : s ≤ k) (hk : k < zs.length) (h : DigTo zs s k) (hd : dig zs[k] = true) : DigTo zs s (k + 1) := by
  unfold DigTo at *
  have hk' : k - s < (zs.drop s).length := by simp; omega
  rw [show k + 1 - s = (k - s) + 1 from by omega, List.take_succ_eq_append_getElem hk', List.all_append, h]
  simp only [List.getElem_drop, show s + (k - s) = k from by omega, List.all_cons, hd, List.all_nil, Bool.and_self]

theorem digTo_stop {zs : List Int} {s k : Nat} (neg : Bool) (hs : s ≤ k) (hk : k < zs.length) (hd : dig zs[k] = false) : core zs s neg = false := by
  have : (zs.drop s).all dig = false := by
    rw [List.all_eq_false]
    refine ⟨zs[k], ?_, by simp [hd]⟩
    rw [List.mem_drop_iff_getElem]
    exact ⟨k - s, by omega, by simp [show s + (k - s) = k from by omega]⟩
  simp [core, this]

theorem digTo_end {zs : List Int} {s n : Nat} (neg : Bool) (hl : zs.length = n) (h : DigTo zs s n) : core zs s neg = decide (norm neg (zs.drop s) = zs) := by
  unfold DigTo at h
  rw [List.take_of_length_le (by simp; omega)] at h
  simp [core, h]

theorem zeroTo_step {zs : List Int} {s k : Nat} (hk : k < zs.length) (h : ZeroTo zs s k) (e : zs[k] = 48) : ZeroTo zs s (k + 1) := by
  unfold ZeroTo at *
  rw [h, drop_cons zs k hk]
  simp [strip, e]

theorem zeroTo_end {zs : List Int} {s n : Nat} (neg : Bool) (hl : zs.length = n) (h : ZeroTo zs s n) : norm neg (zs.drop s) = [48] := by
  unfold ZeroTo at h
  rw [List.drop_of_length_le (i := n) (by omega)] at h
  simp [norm, h, strip]

def pre (neg : Bool) : List Int := if neg then [45] else []

/-- What has been laid down when the loop stands at i. -/
def laidTo (zs : List Int) (neg : Bool) (j i : Nat) : List Int := pre neg ++ (zs.drop j).take (i - j)

theorem laidTo_step (zs : List Int) (neg : Bool) (j i : Nat) (hj : j ≤ i) (hi : i < zs.length) : cells (laidTo zs neg j i) ++ [.int .u8 zs[i]] = cells (laidTo zs neg j (i + 1)) := by
  have hk' : i - j < (zs.drop j).length := by simp; omega
  unfold laidTo cells
  rw [show i + 1 - j = (i - j) + 1 from by omega, List.take_succ_eq_append_getElem hk']
  simp only [List.getElem_drop, show j + (i - j) = i from by omega, List.map_append, List.map_cons, List.map_nil, List.append_assoc]

theorem laidTo_end (zs : List Int) (neg : Bool) (j n : Nat) (hl : zs.length = n) : laidTo zs neg j n = pre neg ++ zs.drop j := by
  unfold laidTo
  rw [List.take_of_length_le (by simp; omega)]

theorem zeroTo_stop {zs : List Int} {s k : Nat} (neg : Bool) (hk : k < zs.length) (h : ZeroTo zs s k) (e : zs[k] ≠ 48) : norm neg (zs.drop s) = pre neg ++ zs.drop k := by
  unfold ZeroTo at h
  rw [drop_cons zs k hk] at h
  have hb : (zs[k] == 48) = false := beq_eq_false_iff_ne.2 e
  simp only [strip, hb, Bool.false_eq_true, if_false] at h
  rw [drop_cons zs k hk]
  simp only [norm, h]
  cases neg <;> rfl

theorem owned_view {w : World} {base g n cap : Nat} {xs : List Int} (h : w.ownsRow base 5 1 (.slice (some ⟨g, 0, none⟩) n cap) n (cells xs)) : View w (some ⟨g, 0, none⟩) n xs := by
  have hl : xs.length = n := by have := h.1; simp [cells] at this; exact this
  refine ⟨hl, .inr ⟨g, 0, rfl, ?_, fun i hi => ?_⟩⟩
  · rcases h.2 with ⟨h', _⟩ | ⟨g', cap', cur, h', _, hg, _⟩
    · simp at h'
    · simp only [Value.slice.injEq, Option.some.injEq, Addr.mk.injEq, and_true, true_and] at h'
      obtain ⟨rfl, rfl⟩ := h'
      by_cases hlt : g < w.heap.size
      · exact hlt
      · rw [Array.getElem?_eq_none (by omega)] at hg
        cases hg
  · rw [Nat.zero_add, h.cellAt i (by omega)]
    have hi' : i < xs.length := by omega
    simp [cells, hi']

theorem view_below {w w' : World} {ad : Option Addr} {n : Nat} {zs : List Int} (h : View w ad n zs) (hb : Below w.heap.size w w') : View w' ad n zs := by
  refine ⟨h.1, ?_⟩
  rcases h.2 with h | ⟨b, off, e, hlt, hc⟩
  · exact .inl h
  · exact .inr ⟨b, off, e, Nat.lt_of_lt_of_le hlt hb.size, fun i hi => by rw [hb.cell (by exact hlt)]; exact hc i hi⟩

set_option maxHeartbeats 3200000 in
theorem nf_core (b off n c : Nat) (zs : List Int) (sg neg : Bool) (s : Nat) (w : World) (hl : zs.length = n) (hm : n ≤ 1048576) (hsn : s < n) (hb : b < w.heap.size)
    (hc : ∀ i, i < n → w.cell? ⟨b, off + i, none⟩ = some (.int .u8 (zs.getD i 0)))
    (hcase : (sg = true ∧ zs.getD 0 0 = 45 ∧ s = 1 ∧ neg = true) ∨ (sg = false ∧ s = 0 ∧ neg = false) ∨ (sg = true ∧ zs.getD 0 0 ≠ 45 ∧ s = 0 ∧ neg = false)) :
    Calls Try.prog 8 #[.slice (some ⟨b, off, none⟩) n c, .bool sg] w fun e w' => e = .returned (.bool (core zs s neg)) ∧ Below w.heap.size w w' := by
  obtain ⟨i0, hi, hz0, hz1, hz2⟩ := info_parts info5
  have HV : Hid (View w (some ⟨b, off, none⟩) n zs) := ⟨hl, .inr ⟨b, off, rfl, hb, hc⟩⟩
  have hc0 : w.cell? ⟨b, off, none⟩ = some (.int .u8 (zs.getD 0 0)) := by simpa using hc 0 (by omega)
  obtain ⟨z0, HZ⟩ : ∃ z0, Hid (z0 = zs.getD 0 0) := ⟨_, rfl⟩
  have e0 : w.cell? ⟨b, off, none⟩ = some (.int .u8 z0) := by rw [HZ.out]; exact hc0
  have R : ∀ k : Nat, k < n → ∃ h : k < zs.length, w.cell? ⟨b, off + k, none⟩ = some (.int .u8 zs[k]) := by
    intro k hk
    have hlt : k < zs.length := by omega
    refine ⟨hlt, ?_⟩
    rw [hc k hk, List.getD_eq_getElem?_getD, List.getElem?_eq_getElem hlt]; rfl
  have HR := (show Hid _ from R)
  have HL := (show Hid _ from hl)
  have hn1 : decide ((0 : Int) < (n : Int)) = true := decide_eq_true (by omega)
  have hne : ¬ n = 0 := by omega
  clear R hc0 hc hl
  rcases hcase with ⟨rfl, hz, hs, hng⟩ | ⟨rfl, hs, hng⟩ | ⟨rfl, hz, hs, hng⟩
  case' inl => have hz45 : (z0 == 45) = true := beq_iff_eq.2 (by rw [HZ.out]; exact hz)
  case' inr.inr => have hz45 : (z0 == 45) = false := beq_eq_false_iff_ne.2 (by rw [HZ.out]; exact hz)
  case' inl => have h1n : 1 < n := by omega
  case' inl => have h1d : decide ((n : Int) ≤ 1) = false := decide_eq_false (by omega)
  case' inl => clear hz
  case' inr.inr => clear hz
  all_goals
    have HS := (show Hid _ from hs)
    have HN := (show Hid _ from hng)
    have hs1 : s ≤ 1 := by omega
    clear hs hng
    go_enter Try.func8, Try.ntmps8
    go_wp2
  all_goals
    go_loop [7] (fun i => ∃ k : Nat, s ≤ k ∧ k ≤ n ∧ i = .int .i64 k ∧ DigTo zs s k) (fun i => n - (intOf i).toNat)
    case atStart => exact ⟨s, Nat.le_refl _, by omega, by rw [HS.out]; rfl, by simp [DigTo]⟩
    case round =>
      obtain ⟨k, hsk, hk, rfl, hal⟩ := hrel
      by_cases hlt : k < n
      · obtain ⟨hkl, hck⟩ := HR.out k hlt
        cases hd : dig zs[k]
        · have HST := (show Hid _ from digTo_stop neg hsk hkl hd)
          clear hal
          go_wp2_with (go_at_call 11; refine (dig_any _ _).mono ?_; rintro e w' ⟨rfl, rfl⟩)
          go_ret
          rw [HST.out]
          exact ⟨rfl, Below.refl _ _⟩
        · have HST := (show Hid _ from digTo_step hsk hkl hal hd)
          clear hal
          go_wp2_with (go_at_call 11; refine (dig_any _ _).mono ?_; rintro e w' ⟨rfl, rfl⟩)
          go_round
          case rel => exact ⟨k + 1, by omega, by omega, by go_num, HST.out⟩
          case measure => simp [intOf]; omega
      · have hkn : k = n := by omega
        subst hkn
        have HE := (show Hid _ from digTo_end neg HL.out hal)
        clear hal
        go_wp2
        go_loop [8] (fun i => ∃ j : Nat, s ≤ j ∧ j ≤ k ∧ i = .int .i64 j ∧ ZeroTo zs s j) (fun i => k - (intOf i).toNat)
        case atStart => exact ⟨s, Nat.le_refl _, by omega, by rw [HS.out]; rfl, rfl⟩
        case round =>
          obtain ⟨j, hsj, hj, rfl, hzt⟩ := hrel
          by_cases hlt : j < k
          · obtain ⟨hjl, hcj⟩ := HR.out j hlt
            by_cases hz : zs[j] = 48
            · have HST := (show Hid _ from zeroTo_step hjl hzt hz)
              have hzb : (zs[j] == 48) = true := beq_iff_eq.2 hz
              clear hzt hz
              go_wp2
              go_round
              case rel => exact ⟨j + 1, by omega, by omega, by go_num, HST.out⟩
              case measure => simp [intOf]; omega
            · have HST := (show Hid _ from zeroTo_stop neg hjl hzt hz)
              have hzb : (zs[j] == 48) = false := beq_eq_false_iff_ne.2 hz
              have hjk : ((j : Int) == (k : Int)) = false := beq_eq_false_iff_ne.2 (by omega)
              clear hzt hz
              go_wp2_with (at_make; refine wpList_make_own _ rfl _ _ 22 rfl w.heap.size 5 i0 (.int .u8 0) 1 Try.underlying22 hi hz0 hz1 _ _ _ (k - j + 1) rfl rfl (by omega) (by rw [hz2]; omega) (by unfold maxLen; omega) (Nat.le_refl _) ?_)
              intro w0 hown0 hgrow0
              have B0 : Below w.heap.size w w0 := (Below.refl _ _).grown hgrow0 (Nat.le_refl _) (fun k h => by cases h)
              have hsz := B0.size
              go_wp2_with (at_builtin; refine wpList_append_fits _ rfl (.tmp 66) (.tmp 67) 22 rfl w.heap.size 5 i0 1 Try.underlying22 hi hz1 w.heap.size 0 (k - j + 1) _ rfl (hown0.alloc _) ⟨w0.heap.size, 0, none⟩ 1 1 [.int .u8 45] rfl rfl (by intro t u ht; match t, ht with | 0, ht => simp at ht; subst ht; simp [Addr.add]) (by intro u hu; simp at hu; subst hu; rfl) (by omega) ?_; intro w1 hown1 hgrow1)
              go_loopw [9, 10] (fun out si wr => ∃ i : Nat, j ≤ i ∧ i ≤ k ∧ si = .int .i64 i ∧ out = .slice (some ⟨w.heap.size, 0, none⟩) ((pre neg).length + (i - j)) (k - j + 1) ∧
                  wr.ownsRow w.heap.size 5 1 (.slice (some ⟨w.heap.size, 0, none⟩) ((pre neg).length + (i - j)) (k - j + 1)) ((pre neg).length + (i - j)) (cells (laidTo zs neg j i)) ∧ Below w.heap.size w wr) (fun _ si _ => k - (intOf si).toNat)
              case atStart =>
                have hln : (pre neg).length ≤ 1 := by cases neg <;> simp [pre]
                refine ⟨j, Nat.le_refl _, hj, rfl, ?_, ?_, ?_⟩
                · rw [HN.out]; simp [pre]
                · first
                  | (have e : neg = true := HN.out
                     rw [e]; simpa [pre, laidTo, cells] using hown1)
                  | (have e : neg = false := HN.out
                     rw [e]; simpa [pre, laidTo, cells] using hown0)
                · first
                  | exact ((B0.alloc hsz _).grown hgrow1 (by simp; omega) (fun k h => by cases h; exact Nat.le_refl _))
                  | exact B0
              case round =>
                obtain ⟨i, hji, hik, rfl, rfl, hown, hbel⟩ := hrel
                by_cases hlt : i < k
                · obtain ⟨hil, hci⟩ := HR.out i hlt
                  have hcx : wr.cell? ⟨b, off + i, none⟩ = some (.int .u8 zs[i]) := by rw [hbel.cell (by exact hb)]; exact hci
                  have hszr := hbel.size
                  have hln : (pre neg).length ≤ 1 := by cases neg <;> simp [pre]
                  clear hci
                  go_wp2_with (at_builtin; refine wpList_append_fits _ rfl (.tmp 76) (.tmp 81) 22 rfl w.heap.size 5 i0 1 Try.underlying22 hi hz1 w.heap.size ((pre neg).length + (i - j)) (k - j + 1) _ rfl (hown.alloc _) ⟨wr.heap.size, 0, none⟩ 1 1 [.int .u8 zs[i]] rfl rfl (by intro t u ht; match t, ht with | 0, ht => simp at ht; subst ht; simp [Addr.add]) (by intro u hu; simp at hu; subst hu; rfl) (by omega) ?_; intro w2 hown2 hgrow2)
                  rw [laidTo_step zs neg j i hji hil] at hown2
                  have hq : (pre neg).length + (i - j) + 1 = (pre neg).length + (i + 1 - j) := by omega
                  rw [hq] at hown2
                  go_roundw
                  case rel => exact ⟨i + 1, by omega, by omega, by go_num, by rw [hq], hown2, (hbel.alloc hszr _).grown hgrow2 (by simp; omega) (fun k h => by cases h; exact Nat.le_refl _)⟩
                  case measure => simp [intOf]; omega
                · have hik' : i = k := by omega
                  subst hik'
                  rw [laidTo_end zs neg j i HL.out] at hown
                  have hln : (pre neg).length ≤ 1 := by cases neg <;> simp [pre]
                  have V1 := (show Hid _ from owned_view hown)
                  clear hown hown0 hgrow0
                  go_wp2_with fail
                  refine (eq_any _ _ _ _ _ _ (pre neg ++ zs.drop j) zs _ V1.out (view_below HV.out hbel) (by omega) (by omega)).mono ?_
                  rintro e w' ⟨rfl, q, rfl⟩
                  go_wp2
                  go_ret
                  rw [HE.out, HST.out]
                  exact ⟨rfl, hbel.os, hbel.tape, hbel.output, hbel.size, hbel.block⟩
          · have hjk : j = k := by omega
            subst hjk
            have HST := (show Hid _ from zeroTo_end neg HL.out hzt)
            clear hzt
            go_wp2_with fail
            have v1 : View (w.alloc (.cells #[.int .u8 48] 5)) (some ⟨w.heap.size, 0, none⟩) 1 [48] := owned_view (base := w.heap.size) (World.ownsRow_lit w _ 1 (Nat.le_refl _) (by decide) rfl)
            have bl : Below w.heap.size w (w.alloc (.cells #[.int .u8 48] 5)) := (Below.refl _ _).alloc (Nat.le_refl _) _
            refine (eq_any _ _ _ _ _ _ [48] zs _ v1 (view_below HV.out bl) (by omega) (by omega)).mono ?_
            rintro e w' ⟨rfl, q, rfl⟩
            go_wp2
            go_ret
            rw [HE.out, HST.out]
            exact ⟨rfl, bl.os, bl.tape, bl.output, bl.size, bl.block⟩

/-- zzIsNormalNumeral, at every slice of bytes. -/
theorem nf_any (ad : Option Addr) (n c : Nat) (zs : List Int) (sg : Bool) (w : World) (hv : View w ad n zs) (hm : n ≤ 1048576) :
    Calls Try.prog 8 #[.slice ad n c, .bool sg] w fun e w' => e = .returned (.bool (nf zs sg)) ∧ Below w.heap.size w w' := by
  obtain ⟨hl, hv⟩ := hv
  cases zs with
  | nil =>
    have : n = 0 := by simpa using hl.symm
    subst this
    exact (nf_nil ad c sg w).mono fun e w' ⟨h1, h2⟩ => ⟨h1, h2 ▸ Below.refl _ _⟩
  | cons z r =>
    have hn : n = r.length + 1 := by simpa using hl.symm
    subst hn
    rcases hv with h | ⟨b, off, rfl, hb, hc⟩
    · omega
    have hd : ∀ a b : List Int, (a == b) = decide (a = b) := fun a b => by rw [Bool.eq_iff_iff]; simp
    by_cases hs : sg = true ∧ z = 45
    · obtain ⟨rfl, rfl⟩ := hs
      cases r with
      | nil =>
        have h0 : w.cell? ⟨b, off, none⟩ = some (.int .u8 45) := by simpa using hc 0 (by omega)
        exact (nf_minus b off c w h0).mono fun e w' ⟨h1, h2⟩ => ⟨h1, h2 ▸ Below.refl _ _⟩
      | cons y r =>
        have e : nf (45 :: y :: r) true = core (45 :: y :: r) 1 true := by simp [nf, core, hd]
        rw [e]
        exact nf_core b off _ c _ true true 1 w hl hm (by simp) hb hc (.inl ⟨rfl, rfl, rfl, rfl⟩)
    · have e : nf (z :: r) sg = core (z :: r) 0 false := by
        simp only [nf]
        rw [if_neg (by simpa using hs), hd]
        rfl
      rw [e]
      refine nf_core b off _ c _ sg false 0 w hl hm (by omega) hb hc (.inr ?_)
      cases sg
      · exact .inl ⟨rfl, rfl, rfl⟩
      · exact .inr ⟨rfl, fun h => hs ⟨rfl, by simpa using h⟩, rfl, rfl⟩

end Go.Proofs.Qxb6617859a.Can
