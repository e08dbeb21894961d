/- Blanks, one colon, blanks: the plain laws. No Go in sight. -/
namespace Go.Proofs.Qxb6617975a.Col

def blank (c : Int) : Bool := c == 32 || c == 9 || c == 10 || c == 13

/-- How many blanks stand at the head. -/
def sp : List Int → Nat
  | [] => 0
  | c :: r => if blank c then sp r + 1 else 0

/-- How far blanks, one colon, blanks reach, with true; where there is no colon, how far the blanks reach, with false. -/
def colon : List Int → Nat × Bool
  | [] => (0, false)
  | c :: r => if blank c then ((colon r).1 + 1, (colon r).2) else if c == 58 then (sp r + 1, true) else (0, false)

theorem sp_le (l : List Int) : sp l ≤ l.length := by
  induction l with
  | nil => simp [sp]
  | cons c r ih => simp only [sp]; split <;> simp <;> omega

theorem colon_le (l : List Int) : (colon l).1 ≤ l.length := by
  induction l with
  | nil => simp [colon]
  | cons c r ih =>
    have := sp_le r
    simp only [colon]
    split
    · simp; omega
    · split <;> simp <;> omega

theorem blank_58 : blank 58 = false := by decide

/-- At the end of the blanks nothing stands. -/
theorem colon_end (l : List Int) (h : sp l = l.length) : colon l = (sp l, false) := by
  induction l with
  | nil => rfl
  | cons c r ih =>
    by_cases hb : blank c = true
    · simp only [sp, hb, if_true, List.length_cons] at h
      have := ih (by omega)
      simp only [colon, sp, hb, if_true, this]
    · simp only [sp, hb, if_false, List.length_cons, Bool.false_eq_true] at h
      omega

/-- At the end of the blanks another byte than a colon stands. -/
theorem colon_other (l : List Int) (h : sp l < l.length) (hc : l[sp l] ≠ 58) : colon l = (sp l, false) := by
  induction l with
  | nil => simp at h
  | cons c r ih =>
    by_cases hb : blank c = true
    · have e : sp (c :: r) = sp r + 1 := by simp [sp, hb]
      have h' : sp r < r.length := by rw [e] at h; simpa using h
      have hc' : r[sp r] ≠ 58 := by simpa [e] using hc
      simp only [colon, hb, if_true, ih h' hc', e]
    · have e : sp (c :: r) = 0 := by simp [sp, hb]
      have hc' : c ≠ 58 := by simpa [e] using hc
      have hb' : (c == 58) = false := beq_eq_false_iff_ne.2 hc'
      simp only [colon, hb, hb', e, Bool.false_eq_true, if_false]

/-- At the end of the blanks a colon stands. -/
theorem colon_colon (l : List Int) (h : sp l < l.length) (hc : l[sp l] = 58) : colon l = (sp l + 1 + sp (l.drop (sp l + 1)), true) := by
  induction l with
  | nil => simp at h
  | cons c r ih =>
    by_cases hb : blank c = true
    · have e : sp (c :: r) = sp r + 1 := by simp [sp, hb]
      have h' : sp r < r.length := by rw [e] at h; simpa using h
      have hc' : r[sp r] = 58 := by simpa [e] using hc
      simp only [colon, hb, if_true, ih h' hc', e, List.drop_succ_cons, Prod.mk.injEq, and_true]
      omega
    · have e : sp (c :: r) = 0 := by simp [sp, hb]
      have hc' : c = 58 := by simpa [e] using hc
      subst hc'
      simp only [colon, blank_58, e, Bool.false_eq_true, if_false, beq_self_eq_true, if_true, Nat.zero_add, List.drop_succ_cons, List.drop_zero, Prod.mk.injEq, and_true]
      omega

/-- Where the answer lies, counted from the text's head. -/
def endAt (zs : List Int) (i : Nat) : Nat := i + (colon (zs.drop i)).1
def okAt (zs : List Int) (i : Nat) : Bool := (colon (zs.drop i)).2

theorem endAt_le (zs : List Int) (i : Nat) (hi : i ≤ zs.length) : endAt zs i ≤ zs.length := by
  have := colon_le (zs.drop i)
  simp at this
  unfold endAt
  omega

theorem le_endAt (zs : List Int) (i : Nat) : i ≤ endAt zs i := by unfold endAt; omega

/-- A blank on the way does not turn the answer. -/
theorem at_blank (zs : List Int) (i : Nat) (hi : i < zs.length) (hb : blank zs[i] = true) : endAt zs i = endAt zs (i + 1) ∧ okAt zs i = okAt zs (i + 1) := by
  have e : zs.drop i = zs[i] :: zs.drop (i + 1) := List.drop_eq_getElem_cons hi
  unfold endAt okAt
  rw [e]
  simp only [colon, hb, if_true, and_true]
  omega

theorem at_end (zs : List Int) (i : Nat) (hi : zs.length ≤ i) : endAt zs i = i ∧ okAt zs i = false := by
  unfold endAt okAt
  rw [List.drop_eq_nil_of_le hi]
  exact ⟨rfl, rfl⟩

theorem at_colon (zs : List Int) (i : Nat) (hi : i < zs.length) (hc : zs[i] = 58) : endAt zs i = i + 1 + sp (zs.drop (i + 1)) ∧ okAt zs i = true := by
  have e : zs.drop i = zs[i] :: zs.drop (i + 1) := List.drop_eq_getElem_cons hi
  unfold endAt okAt
  rw [e, hc]
  simp only [colon, blank_58, Bool.false_eq_true, if_false, beq_self_eq_true, if_true, and_true]
  omega

theorem at_other (zs : List Int) (i : Nat) (hi : i < zs.length) (hb : blank zs[i] = false) (hc : zs[i] ≠ 58) : endAt zs i = i ∧ okAt zs i = false := by
  have e : zs.drop i = zs[i] :: zs.drop (i + 1) := List.drop_eq_getElem_cons hi
  have hc' : (zs[i] == 58) = false := beq_eq_false_iff_ne.2 hc
  unfold endAt okAt
  rw [e]
  simp only [colon, hb, hc', Bool.false_eq_true, if_false]
  exact ⟨rfl, trivial⟩

theorem sp_blank (zs : List Int) (i : Nat) (hi : i < zs.length) (hb : blank zs[i] = true) : i + sp (zs.drop i) = i + 1 + sp (zs.drop (i + 1)) := by
  have e : zs.drop i = zs[i] :: zs.drop (i + 1) := List.drop_eq_getElem_cons hi
  rw [e]
  simp only [sp, hb, if_true]
  omega

theorem sp_other (zs : List Int) (i : Nat) (hi : i < zs.length) (hb : blank zs[i] = false) : i + sp (zs.drop i) = i := by
  have e : zs.drop i = zs[i] :: zs.drop (i + 1) := List.drop_eq_getElem_cons hi
  rw [e]
  simp only [sp, hb, Bool.false_eq_true, if_false]
  omega

theorem sp_end (zs : List Int) (i : Nat) (hi : zs.length ≤ i) : i + sp (zs.drop i) = i := by
  rw [List.drop_eq_nil_of_le hi]
  rfl

/-- One blank more among the blanks. -/
theorem sp_ins (l : List Int) (b : Int) (hb : blank b = true) : ∀ j, j ≤ sp l → sp (l.take j ++ b :: l.drop j) = sp l + 1 := by
  induction l with
  | nil => intro j hj; simp [sp] at hj; subst hj; simp [sp, hb]
  | cons c r ih =>
    intro j hj
    cases j with
    | zero => simp [sp, hb]
    | succ j =>
      by_cases hc : blank c = true
      · simp only [sp, hc, if_true] at hj
        simp only [List.take_succ_cons, List.drop_succ_cons, List.cons_append, sp, hc, if_true, ih j (by omega)]
      · simp only [sp, hc, Bool.false_eq_true, if_false] at hj
        omega

theorem colon_ins (l : List Int) (b : Int) (hb : blank b = true) : ∀ j, j ≤ (colon l).1 → colon (l.take j ++ b :: l.drop j) = ((colon l).1 + 1, (colon l).2) := by
  induction l with
  | nil => intro j hj; simp [colon] at hj; subst hj; simp [colon, hb]
  | cons c r ih =>
    intro j hj
    cases j with
    | zero => simp only [List.take_zero, List.drop_zero, List.nil_append]; rw [colon]; simp [hb]
    | succ j =>
      simp only [List.take_succ_cons, List.drop_succ_cons, List.cons_append]
      by_cases hc : blank c = true
      · simp only [colon, hc, if_true] at hj
        simp only [colon, hc, if_true, ih j (by omega)]
      · by_cases h58 : (c == 58) = true
        · simp only [colon, hc, h58, Bool.false_eq_true, if_false, if_true] at hj
          simp only [colon, hc, h58, Bool.false_eq_true, if_false, if_true, sp_ins r b hb j (by omega)]
        · simp only [colon, hc, h58, Bool.false_eq_true, if_false] at hj
          omega

/-- The text with b put in at q. -/
def ins (zs : List Int) (q : Nat) (b : Int) : List Int := zs.take q ++ b :: zs.drop q

theorem at_ins (zs : List Int) (i q : Nat) (b : Int) (hb : blank b = true) (hi : i ≤ zs.length) (h1 : i ≤ q) (h2 : q ≤ endAt zs i) :
    endAt (ins zs q b) i = endAt zs i + 1 ∧ okAt (ins zs q b) i = okAt zs i := by
  have hq : q ≤ zs.length := Nat.le_trans h2 (endAt_le zs i hi)
  have e : (ins zs q b).drop i = (zs.drop i).take (q - i) ++ b :: (zs.drop i).drop (q - i) := by
    unfold ins
    rw [List.drop_append_of_le_length (by simp; omega), List.drop_take, List.drop_drop, show i + (q - i) = q from by omega]
  unfold endAt at h2
  have := colon_ins (zs.drop i) b hb (q - i) (by omega)
  unfold endAt okAt
  rw [e, this]
  exact ⟨by omega, rfl⟩

end Go.Proofs.Qxb6617975a.Col
