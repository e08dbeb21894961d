/- The walk of FnAppendIntRoundTrip. -/
import Derived.Test.Qxb6617859aDoorAppInt
namespace Go.Proofs.Qxb6617859aDoor.Can
open Go.RowKit
set_option linter.unusedVariables false

/-- The numeral of an int64: one to twenty bytes. -/
theorem itoa_len (i : Int) (h0 : -9223372036854775808 ≤ i) (h1 : i ≤ 9223372036854775807) : 1 ≤ (Lib.itoa i).length ∧ (Lib.itoa i).length ≤ 20 := by
  unfold Lib.itoa
  split
  · have h := dec_len 18 i.natAbs (by omega)
    simp only [List.length_cons]
    omega
  · have h := dec_len 18 i.toNat (by omega)
    have := List.length_pos_iff.2 (dec_ne i.toNat)
    omega

theorem canon_itoa (i : Int) : canon (nums (Lib.itoa i)) true = true := by
  unfold Lib.itoa
  split
  · exact canon_neg _ (by omega)
  · exact canon_dec _ _

theorem view_drewN {w : World} {ad : Option Addr} {n : Nat} {zs : List Int} (h : View w ad n zs) (q : Nat) : View (w.drewN q) ad n zs := h

theorem below_drewN {B : Nat} {a w : World} (h : Below B a w) (q : Nat) : Below B a (w.drewN q) := ⟨h.os, h.tape, h.output, h.size, h.block⟩

/-- One cell of what is seen. -/
theorem view_cell {w : World} {g n : Nat} {xs zs : List Int} {z : Int} (hv : View w (some ⟨g, 0, none⟩) n (xs ++ z :: zs)) (j : Nat) (hx : xs.length = j) : w.cell? ⟨g, j, none⟩ = some (.int .u8 z) := by
  have hv' : View w (some ⟨g, 0, none⟩) n (xs ++ [z] ++ zs) := by simpa using hv
  have h := view_part (off := j) (m := 1) hv' hx rfl
  rcases h.2 with h | ⟨b, o, e, hb, hc⟩
  · omega
  · have e1 := Option.some.inj e
    have := hc 0 (by omega)
    rw [Nat.add_zero, ← e1] at this
    exact this

set_option maxHeartbeats 3200000 in
theorem lawInt_any (ad : Option Addr) (n c : Nat) (zs : List Int) (i : Int) (w : World) (hv : View w ad n zs) (hnil : ad = none → n = 0 ∧ c = 0) (hm : n ≤ 1048576) (h0 : -9223372036854775808 ≤ i) (h1 : i ≤ 9223372036854775807)
    (htab : Lib.TabIs Tryd.prog w Tryd.tabName .u64 Lib.pow10Tab) :
    Calls Tryd.prog 3 #[.slice ad n c, .int .i64 i] w fun e w' => e = .returned (.bool true) ∧ Below w.heap.size w w' := by
  have hd : decide (n ≤ 1048576) = true := decide_eq_true hm
  have hd2 : decide ((1048576 : Int) < (n : Int)) = false := decide_eq_false (by omega)
  have hT := hid (Lib.tabBelow_of_tabIs htab)
  have HN := hid hnil
  have HV := hid hv
  obtain ⟨L, HL⟩ : ∃ L, Hid (L = (Lib.itoa i).length) := ⟨_, rfl⟩
  have hL := itoa_len i h0 h1
  rw [← HL.out] at hL
  obtain ⟨hL1, hL2⟩ := hL
  have HC := hid (canon_itoa i)
  have HZ : Hid (zs.length = n) := hv.1
  clear hnil hv htab
  go_enter Tryd.func3, Tryd.ntmps3
  go_wp2_with fail
  refine (bytes_any _ _ _ _ _ (by omega)).mono ?_
  rintro e w1 ⟨rfl, rfl⟩
  go_wp2_with fail
  refine (clone_full _ _ _ zs _ HV.out HN.out hm).mono ?_
  rintro e w1 ⟨ad1, rfl, v1, n1, b1⟩
  have N1 := hid n1
  have V1 := hid v1
  clear n1 v1
  go_wp2_with fail
  refine (clone_full _ _ _ zs _ V1.out (fun h => ⟨N1.out h, N1.out h⟩) hm).mono ?_
  rintro e w2 ⟨ad2, rfl, v2, n2, b2⟩
  have hb2 := b1.trans (b2.mono b1.size)
  have V2 := hid v2
  have V12 := hid (view_below V1.out b2)
  clear n2 v2
  go_wp2_with fail
  refine (zzAppendInt_any _ _ zs i _ V12.out N1.out hm h0 h1 (hT.out _ hb2)).mono ?_
  rw [← HL.out]
  rintro e w3 ⟨g, cap, rfl, hcap, hmx, v3, b3⟩
  have hb3 := hb2.trans (b3.mono hb2.size)
  have V3 := hid v3
  have V23 := hid (view_below V2.out b3)
  have VA : Hid (View w3 (some ⟨g, 0, none⟩) n zs) := view_part (xs := []) (zs := [105] ++ nums (Lib.itoa i) ++ [101]) (by simpa using v3) rfl HZ.out
  have VD : Hid (View w3 (some ⟨g, n + 1, none⟩) L (nums (Lib.itoa i))) := view_part (zs := [101]) v3 (by rw [List.length_append, HZ.out]; rfl) (by simp [nums, HL.out])
  have ci : w3.cell? ⟨g, n, none⟩ = some (.int .u8 105) := view_cell (xs := zs) (zs := nums (Lib.itoa i) ++ [101]) (by simpa using v3) n HZ.out
  have ce : w3.cell? ⟨g, n + 1 + L, none⟩ = some (.int .u8 101) := view_cell (xs := zs ++ [105] ++ nums (Lib.itoa i)) (zs := []) v3 (n + 1 + L) (by rw [List.length_append, List.length_append, HZ.out, HL.out]; simp [nums])
  clear v3
  unfold maxLen at hmx
  go_wp2_with fail
  refine (eq_any _ _ _ _ _ _ zs zs _ VA.out V23.out (by omega) (by omega)).mono ?_
  rintro e w4 ⟨rfl, q, rfl⟩
  rw [decide_eq_true (rfl : zs = zs)]
  go_wp2_with fail
  refine (zzcanon_any _ _ _ (nums (Lib.itoa i)) _ _ (view_drewN VD.out q) (by omega) (by omega)).mono ?_
  rintro e w5 ⟨rfl, rfl⟩
  rw [HC.out]
  go_wp2_with fail
  refine (parse_itoa _ _ _ i _ h0 h1 (view_drewN VD.out q) (by omega)).mono ?_
  rintro e w5 ⟨rfl, rfl⟩
  have hbq := below_drewN hb3 q
  by_cases hneg : i < 0
  · rw [decide_eq_true hneg]
    have hd3 : decide (i < 0) = true := decide_eq_true hneg
    have hab : ((i.natAbs : Nat) : Int) = -i := by omega
    rw [hab]
    clear hab
    go_wp2
    go_ret
    exact ⟨by simp, hbq⟩
  · rw [decide_eq_false hneg]
    have hd3 : decide (0 ≤ i) = true := decide_eq_true (by omega)
    have hab : ((i.natAbs : Nat) : Int) = i := by omega
    rw [hab]
    clear hab
    have hi0 : 0 ≤ i := by omega
    go_wp2
    go_ret
    exact ⟨by simp, hbq⟩

end Go.Proofs.Qxb6617859aDoor.Can
