/- Decimal numerals, as lists of numbers: no Go in sight. -/
import Derived.Lib.ItoaNum
import Derived.Test.Qxb6617859aDoorCanPlain
namespace Go.Proofs.Qxb6617859aDoor.Can

/-- The bytes of a list, as numbers. -/
def nums (l : List UInt8) : List Int := l.map fun b => (b.toNat : Int)

/-- What a list of digits stands for. -/
def val (l : List Int) : Int := l.foldl (fun m c => m * 10 + (c - 48)) 0

theorem val_snoc (l : List Int) (c : Int) : val (l ++ [c]) = val l * 10 + (c - 48) := by simp [val]

theorem nums_append (a b : List UInt8) : nums (a ++ b) = nums a ++ nums b := by simp [nums]

theorem digit_nat (d : Nat) (h : d < 10) : ((UInt8.ofNat (48 + d)).toNat : Int) = 48 + (d : Int) := by
  have : (UInt8.ofNat (48 + d)).toNat = 48 + d := by
    rw [UInt8.toNat_ofNat']
    omega
  rw [this]
  omega

theorem decDigits_small {u : Nat} (h : u < 10) : Lib.decDigits u = [UInt8.ofNat (48 + u)] := by rw [Lib.decDigits, dif_pos h]
theorem decDigits_big {u : Nat} (h : ¬ u < 10) : Lib.decDigits u = Lib.decDigits (u / 10) ++ [UInt8.ofNat (48 + u % 10)] := by rw [Lib.decDigits, dif_neg h]

/-- All that is asked of the numeral of u: by recursion with fuel. -/
theorem dec_facts (f : Nat) : ∀ u, u ≤ f → val (nums (Lib.decDigits u)) = u ∧ (nums (Lib.decDigits u)).all dig = true ∧ Lib.decDigits u ≠ [] ∧ (u ≠ 0 → (nums (Lib.decDigits u)).head? ≠ some 48) ∧ (u = 0 → nums (Lib.decDigits u) = [48]) := by
  induction f with
  | zero =>
    intro u hu
    have : u = 0 := by omega
    subst this
    rw [decDigits_small (by omega)]
    refine ⟨by decide, by decide, by simp, by simp, fun _ => by decide⟩
  | succ f ih =>
    intro u hu
    by_cases h : u < 10
    · rw [decDigits_small h]
      have e := digit_nat u h
      refine ⟨?_, ?_, by simp, ?_, ?_⟩
      · simp only [nums, List.map_cons, List.map_nil, e, val, List.foldl_cons, List.foldl_nil]; omega
      · simp only [nums, List.map_cons, List.map_nil, e, List.all_cons, List.all_nil, dig, Bool.and_true, Bool.and_eq_true, decide_eq_true_eq]; omega
      · intro h0
        simp only [nums, List.map_cons, List.map_nil, e, List.head?_cons, ne_eq, Option.some.injEq]
        omega
      · intro h0; subst h0; decide
    · rw [decDigits_big h]
      obtain ⟨i1, i2, i3, i4, -⟩ := ih (u / 10) (by omega)
      have e := digit_nat (u % 10) (by omega)
      have en : nums [UInt8.ofNat (48 + u % 10)] = [48 + ((u % 10 : Nat) : Int)] := by simp only [nums, List.map_cons, List.map_nil, e]
      rw [nums_append, en]
      refine ⟨?_, ?_, by simp, ?_, ?_⟩
      · rw [val_snoc, i1]; omega
      · rw [List.all_append, i2]
        simp only [List.all_cons, List.all_nil, dig, Bool.and_true, Bool.true_and, Bool.and_eq_true, decide_eq_true_eq]; omega
      · intro _
        have h4 := i4 (by omega)
        cases hx : nums (Lib.decDigits (u / 10)) with
        | nil => exact absurd (by simpa [nums] using hx) i3
        | cons a r => rw [hx] at h4; simpa using h4
      · intro h0; omega

theorem dec_val (u : Nat) : val (nums (Lib.decDigits u)) = u := (dec_facts u u (Nat.le_refl _)).1
theorem dec_all (u : Nat) : (nums (Lib.decDigits u)).all dig = true := (dec_facts u u (Nat.le_refl _)).2.1
theorem dec_ne (u : Nat) : Lib.decDigits u ≠ [] := (dec_facts u u (Nat.le_refl _)).2.2.1

theorem dec_len (k : Nat) : ∀ u, u < 10 ^ (k + 1) → (Lib.decDigits u).length ≤ k + 1 := by
  induction k with
  | zero => intro u h; rw [decDigits_small (by simpa using h)]; simp
  | succ k ih =>
    intro u h
    by_cases h10 : u < 10
    · rw [decDigits_small h10]; simp
    · rw [decDigits_big h10]
      have := ih (u / 10) (by rw [Nat.pow_succ] at h; omega)
      simp
      omega

theorem canonU_dec (u : Nat) : canonU (nums (Lib.decDigits u)) = true := by
  obtain ⟨-, h2, h3, h4, h5⟩ := dec_facts u u (Nat.le_refl _)
  by_cases h0 : u = 0
  · rw [h5 h0]; decide
  · have h4 := h4 h0
    cases hx : nums (Lib.decDigits u) with
    | nil => exact absurd (by simpa [nums] using hx) h3
    | cons a r =>
      rw [hx] at h4 h2
      have hb : (a == 48) = false := beq_eq_false_iff_ne.2 (by simpa using h4)
      simp only [canonU, hb, Bool.false_and, Bool.not_false, Bool.true_and, h2]

theorem dec_head (u : Nat) : (nums (Lib.decDigits u)).head? ≠ some 45 := by
  have h2 := dec_all u
  have h3 := dec_ne u
  cases hx : nums (Lib.decDigits u) with
  | nil => exact absurd (by simpa [nums] using hx) h3
  | cons a r =>
    rw [hx] at h2
    simp only [List.all_cons, dig, Bool.and_eq_true, decide_eq_true_eq] at h2
    simp only [List.head?_cons, ne_eq, Option.some.injEq]
    omega

theorem canon_dec (u : Nat) (sg : Bool) : canon (nums (Lib.decDigits u)) sg = true := by
  have h := canonU_dec u
  have hh := dec_head u
  cases hx : nums (Lib.decDigits u) with
  | nil => rw [hx] at h; simp [canonU] at h
  | cons a r =>
    rw [hx] at hh h
    have hb : (a == 45) = false := beq_eq_false_iff_ne.2 (by simpa using hh)
    simp only [canon, hb, Bool.and_false, Bool.false_eq_true, if_false, h]

/-- The numeral of a number that is no zero, behind a sign. -/
theorem canon_neg (u : Nat) (h : u ≠ 0) : canon (45 :: nums (Lib.decDigits u)) true = true := by
  rw [canon_minus_true, canon_dec]
  obtain ⟨-, -, -, h4, -⟩ := dec_facts u u (Nat.le_refl _)
  have h4 := h4 h
  have : (nums (Lib.decDigits u) == [48]) = false := by
    rw [beq_eq_false_iff_ne]
    intro e
    rw [e] at h4
    simp at h4
  simp [this]

/-- A beginning of a list of digits stands for no more than the whole. -/
theorem val_take_le (l : List Int) (h : l.all dig = true) (k : Nat) : 0 ≤ val (l.take k) ∧ val (l.take k) ≤ val l := by
  have aux : ∀ (r : List Int) (m : Int), 0 ≤ m → r.all dig = true → m ≤ r.foldl (fun m c => m * 10 + (c - 48)) m := by
    intro r
    induction r with
    | nil => intro m _ _; simp
    | cons c r ih =>
      intro m hm hr
      simp only [List.all_cons, dig, Bool.and_eq_true, decide_eq_true_eq] at hr
      simp only [List.foldl_cons]
      have := ih (m * 10 + (c - 48)) (by omega) hr.2
      omega
  have h1 : (l.take k).all dig = true := by
    rw [List.all_eq_true] at h ⊢
    exact fun x hx => h x (List.mem_of_mem_take hx)
  have h2 : (l.drop k).all dig = true := by
    rw [List.all_eq_true] at h ⊢
    exact fun x hx => h x (List.mem_of_mem_drop hx)
  have h0 : 0 ≤ val (l.take k) := aux _ 0 (Int.le_refl _) h1
  refine ⟨h0, ?_⟩
  have e : val l = (l.drop k).foldl (fun m c => m * 10 + (c - 48)) (val (l.take k)) := by
    conv => lhs; rw [← List.take_append_drop k l]
    simp only [val, List.foldl_append]
  rw [e]
  exact aux _ _ h0 h2

theorem val_take_succ (l : List Int) (k : Nat) (hk : k < l.length) : val (l.take (k + 1)) = val (l.take k) * 10 + (l[k] - 48) := by
  rw [List.take_succ_eq_append_getElem hk, val_snoc]

end Go.Proofs.Qxb6617859aDoor.Can
