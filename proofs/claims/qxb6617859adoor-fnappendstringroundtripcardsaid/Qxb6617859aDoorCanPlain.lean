/- The plain law: the canonical numerals are those that equal their own normal form. No Go in sight. -/
namespace Go.Proofs.Qxb6617859aDoor.Can

def dig (c : Int) : Bool := decide (48 ≤ c) && decide (c ≤ 57)

def canonU (l : List Int) : Bool :=
  match l with
  | [] => false
  | c :: r => !(c == 48 && !r.isEmpty) && (c :: r).all dig

def canon (l : List Int) (signed : Bool) : Bool :=
  match l with
  | [] => false
  | c :: r => if signed && c == 45 then (!(r.head? == some 48) && canonU r) else canonU (c :: r)

def strip : List Int → List Int
  | [] => []
  | c :: r => if c == 48 then strip r else c :: r

def norm (neg : Bool) (l : List Int) : List Int :=
  match strip l with
  | [] => [48]
  | c :: r => if neg then 45 :: c :: r else c :: r

def nf (l : List Int) (signed : Bool) : Bool :=
  match l with
  | [] => false
  | c :: r =>
    if signed && c == 45 then (!r.isEmpty && r.all dig && norm true r == c :: r)
    else ((c :: r).all dig && norm false (c :: r) == c :: r)

theorem strip_len (l : List Int) : (strip l).length ≤ l.length := by
  induction l with
  | nil => simp [strip]
  | cons c r ih => simp only [strip]; split <;> simp <;> omega

theorem norm_false (c : Int) (r : List Int) : (norm false (c :: r) == c :: r) = !(c == 48 && !r.isEmpty) := by
  by_cases hc : c = 48
  · subst hc
    cases r with
    | nil => simp [norm, strip]
    | cons d r =>
      have h := strip_len (d :: r)
      simp only [norm, strip, beq_self_eq_true, if_true]
      cases hs : (if d == 48 then strip r else d :: r) with
      | nil => simp
      | cons x y =>
        have hl : (x :: y).length ≤ (d :: r).length := by rw [← hs]; exact h
        simp only [List.length_cons] at hl
        simp only [Bool.false_eq_true, if_false, List.isEmpty_cons, Bool.not_false, Bool.true_and, Bool.not_true]
        rw [beq_eq_false_iff_ne]
        intro he
        have := congrArg List.length he
        simp at this
        omega
  · simp [norm, strip, hc]

theorem norm_true (r : List Int) (h : r ≠ []) : (norm true r == 45 :: r) = !(r.head? == some 48) := by
  cases r with
  | nil => exact absurd rfl h
  | cons c r =>
    by_cases hc : c = 48
    · subst hc
      have h := strip_len r
      simp only [norm, strip, beq_self_eq_true, if_true]
      cases hs : strip r with
      | nil => simp
      | cons x y =>
        rw [hs] at h
        simp only [List.length_cons] at h
        simp only [List.head?_cons, beq_self_eq_true, Bool.not_true]
        rw [beq_eq_false_iff_ne]
        intro he
        have := congrArg List.length he
        simp at this
        omega
    · simp [norm, strip, hc]

theorem canon_nf (l : List Int) (signed : Bool) : canon l signed = nf l signed := by
  cases l with
  | nil => rfl
  | cons c r =>
    simp only [canon, nf]
    by_cases h : (signed && c == 45) = true
    · rw [if_pos h, if_pos h]
      have hc : c = 45 := by simp at h; exact h.2
      subst hc
      cases r with
      | nil => simp [canonU]
      | cons d r =>
        rw [norm_true (d :: r) (by simp)]
        simp only [canonU, List.head?_cons, List.isEmpty_cons, Bool.not_false, Bool.true_and]
        by_cases hd : d = 48
        · subst hd; simp
        · have hb : (d == 48) = false := beq_eq_false_iff_ne.2 hd
          simp [hb]
    · rw [if_neg h, if_neg h, norm_false]
      simp only [canonU]
      rw [Bool.and_comm]

theorem canon_minus_true (l : List Int) : canon (45 :: l) true = (canon l false && !(l == [48])) := by
  cases l with
  | nil => simp [canon, canonU]
  | cons c r =>
    simp only [canon, canonU, List.head?_cons]
    by_cases hc : c = 48
    · subst hc
      cases r with
      | nil => simp [dig]
      | cons d r => simp
    · have hb : (c == 48) = false := beq_eq_false_iff_ne.2 hc
      simp [hb]

theorem canon_minus_false (l : List Int) : canon (45 :: l) false = false := by
  simp [canon, canonU, dig]

theorem canon_flag (l : List Int) (h : l.head? ≠ some 45) : canon l true = canon l false := by
  cases l with
  | nil => rfl
  | cons c r =>
    have : c ≠ 45 := by simpa using h
    simp [canon, this]

end Go.Proofs.Qxb6617859aDoor.Can
