/- The number grammar's automaton, and what a reader that goes part by part finds: the plain laws. No Go in sight. -/
namespace Go.Proofs.Qxb6617975a.Num

def dgt (c : Int) : Bool := decide (48 ≤ c) && decide (c ≤ 57)
def ee (c : Int) : Bool := c == 101 || c == 69
def sgn (c : Int) : Bool := c == 43 || c == 45

/-- One step of the automaton; -1: dead. -/
def step (s c : Int) : Int :=
  if s == 0 then (if c == 45 then 1 else if c == 48 then 2 else if dgt c then 3 else -1)
  else if s == 1 then (if c == 48 then 2 else if dgt c then 3 else -1)
  else if s == 2 then (if c == 46 then 4 else if ee c then 6 else -1)
  else if s == 3 then (if dgt c then 3 else if c == 46 then 4 else if ee c then 6 else -1)
  else if s == 4 then (if dgt c then 5 else -1)
  else if s == 5 then (if dgt c then 5 else if ee c then 6 else -1)
  else if s == 6 then (if sgn c then 7 else if dgt c then 8 else -1)
  else if s == 7 || s == 8 then (if dgt c then 8 else -1)
  else -1

def comp (s : Int) : Bool := s == 2 || s == 3 || s == 5 || s == 8

/-- How far the automaton reads, and in which state it stands there. -/
def run : List Int → Int → Nat × Int
  | [], s => (0, s)
  | c :: r, s => if step s c < 0 then (0, s) else ((run r (step s c)).1 + 1, (run r (step s c)).2)

/-- The answer from state s on. -/
def ans (l : List Int) (s : Int) : Nat × Bool := ((run l s).1, comp (run l s).2)

theorem ans_go (c : Int) (r : List Int) (s t : Int) (h : step s c = t) (ht : ¬ t < 0) : ans (c :: r) s = ((ans r t).1 + 1, (ans r t).2) := by
  unfold ans
  rw [run, h, if_neg ht]

theorem ans_stop (c : Int) (r : List Int) (s : Int) (h : step s c < 0) : ans (c :: r) s = (0, comp s) := by
  unfold ans
  rw [run, if_pos h]

theorem ans_nil (s : Int) : ans [] s = (0, comp s) := rfl

/-- How many digits stand at the head. -/
def dg : List Int → Nat
  | [] => 0
  | c :: r => if dgt c then dg r + 1 else 0

theorem dg_le (l : List Int) : dg l ≤ l.length := by
  induction l with
  | nil => simp [dg]
  | cons c r ih => simp only [dg]; split <;> simp <;> omega

/-- From the exponent's place on: an exponent, or nothing. -/
def ex : List Int → Nat × Bool
  | [] => (0, true)
  | c :: r => if ee c then ((ans r 6).1 + 1, (ans r 6).2) else (0, true)

theorem dgt_of {c : Int} (h1 : 48 ≤ c) (h2 : c ≤ 57) : dgt c = true := by simp [dgt, h1, h2]
theorem dgt_not {c : Int} (h : c < 48 ∨ 57 < c) : dgt c = false := by
  simp only [dgt, Bool.and_eq_false_iff, decide_eq_false_iff_not]
  omega

theorem dgt_ne {c d : Int} (h : dgt c = true) (hd : d < 48 ∨ 57 < d) : (c == d) = false := by
  rw [beq_eq_false_iff_ne]
  rintro rfl
  rw [dgt_not hd] at h
  cases h

theorem ee_dgt {c : Int} (h : dgt c = true) : ee c = false := by
  simp [ee, dgt_ne h (d := 101) (by omega), dgt_ne h (d := 69) (by omega)]

theorem ee_dot {c : Int} (h : ee c = true) : (c == 46) = false := by
  rw [beq_eq_false_iff_ne]
  rintro rfl
  revert h
  decide

/-- In the integer: its digits, then as behind a zero. -/
theorem ans3 (l : List Int) : ans l 3 = (dg l + (ans (l.drop (dg l)) 2).1, (ans (l.drop (dg l)) 2).2) := by
  induction l with
  | nil => rfl
  | cons c r ih =>
    cases hd : dgt c
    · have e : dg (c :: r) = 0 := by simp [dg, hd]
      rw [e]
      simp only [List.drop_zero, Nat.zero_add]
      cases h46 : (c == 46)
      · cases hee : ee c
        · rw [ans_stop c r 3 (by simp [step, hd, h46, hee]), ans_stop c r 2 (by simp [step, h46, hee])]
          rfl
        · rw [ans_go c r 3 6 (by simp [step, hd, h46, hee]) (by decide), ans_go c r 2 6 (by simp [step, h46, hee]) (by decide)]
      · rw [ans_go c r 3 4 (by simp [step, hd, h46]) (by decide), ans_go c r 2 4 (by simp [step, h46]) (by decide)]
    · have e : dg (c :: r) = dg r + 1 := by simp [dg, hd]
      rw [e, ans_go c r 3 3 (by simp [step, hd]) (by decide), ih, List.drop_succ_cons]
      simp only [Prod.mk.injEq, and_true]
      omega

/-- In the fraction: its digits, then the exponent's place. -/
theorem ans5 (l : List Int) : ans l 5 = (dg l + (ex (l.drop (dg l))).1, (ex (l.drop (dg l))).2) := by
  induction l with
  | nil => rfl
  | cons c r ih =>
    cases hd : dgt c
    · have e : dg (c :: r) = 0 := by simp [dg, hd]
      rw [e]
      simp only [List.drop_zero, Nat.zero_add]
      cases hee : ee c
      · rw [ans_stop c r 5 (by simp [step, hd, hee])]
        simp [ex, hee, comp]
      · rw [ans_go c r 5 6 (by simp [step, hd, hee]) (by decide)]
        simp [ex, hee]
    · have e : dg (c :: r) = dg r + 1 := by simp [dg, hd]
      rw [e, ans_go c r 5 5 (by simp [step, hd]) (by decide), ih, List.drop_succ_cons]
      simp only [Prod.mk.injEq, and_true]
      omega

/-- In the exponent: its digits. -/
theorem ans8 (l : List Int) : ans l 8 = (dg l, true) := by
  induction l with
  | nil => rfl
  | cons c r ih =>
    cases hd : dgt c
    · rw [ans_stop c r 8 (by simp [step, hd])]
      simp [dg, hd, comp]
    · rw [ans_go c r 8 8 (by simp [step, hd]) (by decide), ih]
      simp [dg, hd]

/-- The answer from state s at place j, counted from the text's head. -/
def A (s : Int) (zs : List Int) (j : Nat) : Nat × Bool := (j + (ans (zs.drop j) s).1, (ans (zs.drop j) s).2)
def X (zs : List Int) (j : Nat) : Nat × Bool := (j + (ex (zs.drop j)).1, (ex (zs.drop j)).2)

theorem A_go (s t : Int) (zs : List Int) (j : Nat) (hj : j < zs.length) (h : step s zs[j] = t) (ht : ¬ t < 0) : A s zs j = A t zs (j + 1) := by
  have e : zs.drop j = zs[j] :: zs.drop (j + 1) := List.drop_eq_getElem_cons hj
  unfold A
  rw [e, ans_go _ _ s t h ht]
  simp only [Prod.mk.injEq, and_true]
  omega

theorem A_stop (s : Int) (zs : List Int) (j : Nat) (hj : j < zs.length) (h : step s zs[j] < 0) : A s zs j = (j, comp s) := by
  have e : zs.drop j = zs[j] :: zs.drop (j + 1) := List.drop_eq_getElem_cons hj
  unfold A
  rw [e, ans_stop _ _ s h]
  rfl

theorem A_end (s : Int) (zs : List Int) (j : Nat) (hj : zs.length ≤ j) : A s zs j = (j, comp s) := by
  unfold A
  rw [List.drop_eq_nil_of_le hj]
  rfl

theorem A_le (s : Int) (zs : List Int) (j : Nat) (hj : j ≤ zs.length) : j ≤ (A s zs j).1 ∧ (A s zs j).1 ≤ zs.length := by
  have aux : ∀ (l : List Int) (t : Int), (ans l t).1 ≤ l.length := by
    intro l
    induction l with
    | nil => intro t; simp [ans, run]
    | cons c r ih =>
      intro t
      by_cases h : step t c < 0
      · rw [ans_stop c r t h]; simp
      · rw [ans_go c r t _ rfl h]
        have := ih (step t c)
        simp
        omega
  have := aux (zs.drop j) s
  simp at this
  simp only [A]
  omega

section
variable (zs : List Int) (j : Nat)

theorem p_minus (hj : j < zs.length) (h : zs[j] = 45) : A 0 zs j = A 1 zs (j + 1) := A_go 0 1 zs j hj (by rw [h]; decide) (by decide)

theorem p_nominus (hj : j < zs.length) (h : zs[j] ≠ 45) : A 0 zs j = A 1 zs j := by
  have hb : (zs[j] == 45) = false := beq_eq_false_iff_ne.2 h
  cases h48 : (zs[j] == 48)
  · cases hd : dgt zs[j]
    · rw [A_stop 0 zs j hj (by simp [step, hb, h48, hd]), A_stop 1 zs j hj (by simp [step, h48, hd])]
      rfl
    · rw [A_go 0 3 zs j hj (by simp [step, hb, h48, hd]) (by decide), A_go 1 3 zs j hj (by simp [step, h48, hd]) (by decide)]
  · rw [A_go 0 2 zs j hj (by simp [step, hb, h48]) (by decide), A_go 1 2 zs j hj (by simp [step, h48]) (by decide)]

theorem p_end (hj : zs.length ≤ j) : A 0 zs j = A 1 zs j := by rw [A_end 0 zs j hj, A_end 1 zs j hj]; rfl

theorem p_zero (hj : j < zs.length) (h : zs[j] = 48) : A 1 zs j = A 2 zs (j + 1) := A_go 1 2 zs j hj (by rw [h]; decide) (by decide)

theorem p_digits (hj : j < zs.length) (h1 : 49 ≤ zs[j]) (h2 : zs[j] ≤ 57) : A 1 zs j = A 2 zs (j + 1 + dg (zs.drop (j + 1))) := by
  have hd := dgt_of (c := zs[j]) (by omega) h2
  have h48 : (zs[j] == 48) = false := beq_eq_false_iff_ne.2 (by omega)
  rw [A_go 1 3 zs j hj (by simp [step, h48, hd]) (by decide)]
  unfold A
  rw [ans3, List.drop_drop]
  simp only [Prod.mk.injEq, and_true]
  omega

theorem p_noint (hj : j < zs.length) (hd : dgt zs[j] = false) : A 1 zs j = (j, false) := by
  have h48 : (zs[j] == 48) = false := by
    rw [beq_eq_false_iff_ne]
    intro e
    rw [e] at hd
    revert hd
    decide
  rw [A_stop 1 zs j hj (by simp [step, h48, hd])]
  rfl

theorem p_dot (hj : j < zs.length) (h : zs[j] = 46) : A 2 zs j = A 4 zs (j + 1) := A_go 2 4 zs j hj (by rw [h]; decide) (by decide)

theorem p_nofrac (hk : dg (zs.drop j) = 0) : A 4 zs j = (j, false) := by
  by_cases hj : j < zs.length
  · have e : zs.drop j = zs[j] :: zs.drop (j + 1) := List.drop_eq_getElem_cons hj
    have hd : dgt zs[j] = false := by
      cases h : dgt zs[j]
      · rfl
      · rw [e] at hk; simp [dg, h] at hk
    rw [A_stop 4 zs j hj (by simp [step, hd])]
    rfl
  · rw [A_end 4 zs j (by omega)]; rfl

theorem p_frac (hk : dg (zs.drop j) ≠ 0) : A 4 zs j = X zs (j + dg (zs.drop j)) := by
  by_cases hj : j < zs.length
  · have e : zs.drop j = zs[j] :: zs.drop (j + 1) := List.drop_eq_getElem_cons hj
    cases hd : dgt zs[j]
    · rw [e] at hk; simp [dg, hd] at hk
    · have e2 : dg (zs.drop j) = dg (zs.drop (j + 1)) + 1 := by rw [e]; simp [dg, hd]
      rw [A_go 4 5 zs j hj (by simp [step, hd]) (by decide), e2]
      unfold A X
      rw [ans5, List.drop_drop, show j + (dg (zs.drop (j + 1)) + 1) = j + 1 + dg (zs.drop (j + 1)) from by omega]
      simp only [Prod.mk.injEq, and_true]
      omega
  · rw [List.drop_eq_nil_of_le (by omega)] at hk; simp [dg] at hk

theorem p_nodot (hj : j < zs.length) (h : zs[j] ≠ 46) : A 2 zs j = X zs j := by
  have e : zs.drop j = zs[j] :: zs.drop (j + 1) := List.drop_eq_getElem_cons hj
  have h46 : (zs[j] == 46) = false := beq_eq_false_iff_ne.2 h
  cases hee : ee zs[j]
  · rw [A_stop 2 zs j hj (by simp [step, h46, hee])]
    unfold X
    rw [e]
    simp [ex, hee, comp]
  · rw [A_go 2 6 zs j hj (by simp [step, h46, hee]) (by decide)]
    unfold A X
    rw [e]
    simp only [ex, hee, if_true, Prod.mk.injEq, and_true]
    omega

theorem p_dotend (hj : zs.length ≤ j) : A 2 zs j = X zs j := by
  rw [A_end 2 zs j hj]
  unfold X
  rw [List.drop_eq_nil_of_le hj]
  rfl

theorem p_exp (hj : j < zs.length) (h : ee zs[j] = true) : X zs j = A 6 zs (j + 1) := by
  have e : zs.drop j = zs[j] :: zs.drop (j + 1) := List.drop_eq_getElem_cons hj
  unfold A X
  rw [e]
  simp only [ex, h, if_true, Prod.mk.injEq, and_true]
  omega

theorem p_noexp (hj : j < zs.length) (h : ee zs[j] = false) : X zs j = (j, true) := by
  have e : zs.drop j = zs[j] :: zs.drop (j + 1) := List.drop_eq_getElem_cons hj
  unfold X
  rw [e]
  simp [ex, h]

theorem p_expend (hj : zs.length ≤ j) : X zs j = (j, true) := by
  unfold X
  rw [List.drop_eq_nil_of_le hj]
  rfl

theorem p_sign (hj : j < zs.length) (h : sgn zs[j] = true) : A 6 zs j = A 7 zs (j + 1) := A_go 6 7 zs j hj (by simp [step, h]) (by decide)

theorem p_nosign (hj : j < zs.length) (h : sgn zs[j] = false) : A 6 zs j = A 7 zs j := by
  cases hd : dgt zs[j]
  · rw [A_stop 6 zs j hj (by simp [step, h, hd]), A_stop 7 zs j hj (by simp [step, hd])]
    rfl
  · rw [A_go 6 8 zs j hj (by simp [step, h, hd]) (by decide), A_go 7 8 zs j hj (by simp [step, hd]) (by decide)]

theorem p_signend (hj : zs.length ≤ j) : A 6 zs j = A 7 zs j := by rw [A_end 6 zs j hj, A_end 7 zs j hj]; rfl

theorem p_noexpdigits (hk : dg (zs.drop j) = 0) : A 7 zs j = (j, false) := by
  by_cases hj : j < zs.length
  · have e : zs.drop j = zs[j] :: zs.drop (j + 1) := List.drop_eq_getElem_cons hj
    have hd : dgt zs[j] = false := by
      cases h : dgt zs[j]
      · rfl
      · rw [e] at hk; simp [dg, h] at hk
    rw [A_stop 7 zs j hj (by simp [step, hd])]
    rfl
  · rw [A_end 7 zs j (by omega)]; rfl

theorem p_expdigits (hk : dg (zs.drop j) ≠ 0) : A 7 zs j = (j + dg (zs.drop j), true) := by
  by_cases hj : j < zs.length
  · have e : zs.drop j = zs[j] :: zs.drop (j + 1) := List.drop_eq_getElem_cons hj
    cases hd : dgt zs[j]
    · rw [e] at hk; simp [dg, hd] at hk
    · have e2 : dg (zs.drop j) = dg (zs.drop (j + 1)) + 1 := by rw [e]; simp [dg, hd]
      rw [A_go 7 8 zs j hj (by simp [step, hd]) (by decide), e2]
      unfold A
      rw [ans8]
      simp only [Prod.mk.injEq, and_true]
      omega
  · rw [List.drop_eq_nil_of_le (by omega)] at hk; simp [dg] at hk

theorem dg_digit (hj : j < zs.length) (h : dgt zs[j] = true) : j + dg (zs.drop j) = j + 1 + dg (zs.drop (j + 1)) := by
  have e : zs.drop j = zs[j] :: zs.drop (j + 1) := List.drop_eq_getElem_cons hj
  rw [e]
  simp only [dg, h, if_true]
  omega

theorem dg_other (hj : j < zs.length) (h : dgt zs[j] = false) : j + dg (zs.drop j) = j := by
  have e : zs.drop j = zs[j] :: zs.drop (j + 1) := List.drop_eq_getElem_cons hj
  rw [e]
  simp [dg, h]

theorem dg_end (hj : zs.length ≤ j) : j + dg (zs.drop j) = j := by
  rw [List.drop_eq_nil_of_le hj]
  rfl
end

/-! ### The two laws' own facts -/

/-- Started at the head of the rest, the answer is the same, shifted. -/
theorem A_shift (s : Int) (zs : List Int) (i : Nat) : A s zs i = (i + (A s (zs.drop i) 0).1, (A s (zs.drop i) 0).2) := by
  unfold A
  simp

theorem ans_take (l : List Int) : ∀ (s : Int) (k : Nat), (ans l s).1 ≤ k → ans (l.take k) s = ans l s := by
  induction l with
  | nil => intro s k _; simp
  | cons c r ih =>
    intro s k hk
    by_cases h : step s c < 0
    · rw [ans_stop c r s h]
      cases k with
      | zero => rfl
      | succ k => rw [List.take_succ_cons, ans_stop c _ s h]
    · rw [ans_go c r s _ rfl h] at hk ⊢
      cases k with
      | zero => simp at hk
      | succ k =>
        rw [List.take_succ_cons, ans_go c _ s _ rfl h, ih (step s c) k (by simpa using hk)]

/-- Cut anywhere from the answer's end on, the answer is the same. -/
theorem A_cut (zs : List Int) (i c : Nat) (hi : i ≤ zs.length) (h : (A 0 zs i).1 ≤ c) : A 0 (zs.take c) i = A 0 zs i := by
  have hic : i ≤ c := by have := (A_le 0 zs i hi).1; omega
  unfold A at *
  rw [List.drop_take, ans_take (zs.drop i) 0 (c - i) (by simp only at h; omega)]

end Go.Proofs.Qxb6617975a.Num
