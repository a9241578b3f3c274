/-
  THE PLAIN LAWS OF THIS SEAT: no Go in sight.
-/
namespace Go.Proofs.Qxb6628795a.Lab

/-- a byte that a label may hold -/
def ok (c : UInt8) : Bool := (decide (97 ≤ c.toNat) && decide (c.toNat ≤ 122)) || (decide (48 ≤ c.toNat) && decide (c.toNat ≤ 57)) || decide (c.toNat = 45)

/-- what a label is -/
def lab (l : List UInt8) : Bool := decide (1 ≤ l.length) && decide (l.length ≤ 63) && !(l.head? == some 45) && !(l.getLast? == some 45) && l.all ok

def digit (c : UInt8) : Bool := decide (48 ≤ c.toNat) && decide (c.toNat ≤ 57)

theorem ok_yes {c : UInt8} (h : (97 ≤ c.toNat ∧ c.toNat ≤ 122) ∨ (48 ≤ c.toNat ∧ c.toNat ≤ 57) ∨ c.toNat = 45) : ok c = true := by
  unfold ok; simp; omega
theorem ok_no {c : UInt8} (h : ¬ ((97 ≤ c.toNat ∧ c.toNat ≤ 122) ∨ (48 ≤ c.toNat ∧ c.toNat ≤ 57) ∨ c.toNat = 45)) : ok c = false := by
  cases e : ok c
  · rfl
  · exfalso; apply h; unfold ok at e; simp at e; omega

theorem lab_nil : lab [] = false := by rfl
theorem lab_long {l : List UInt8} (h : 63 < l.length) : lab l = false := by
  have : ¬ l.length ≤ 63 := by omega
  simp [lab, this]
theorem lab_head {l : List UInt8} (h : l.head? = some 45) : lab l = false := by simp [lab, h]
theorem lab_last {l : List UInt8} (h : l.getLast? = some 45) : lab l = false := by simp [lab, h]
theorem lab_bad {l : List UInt8} {c : UInt8} (h : c ∈ l) (hc : ok c = false) : lab l = false := by
  have : l.all ok = false := by
    rw [List.all_eq_false]; exact ⟨c, h, by simp [hc]⟩
  simp [lab, this]
theorem lab_good {l : List UInt8} (h1 : 1 ≤ l.length) (h2 : l.length ≤ 63) (h3 : l.head? ≠ some 45) (h4 : l.getLast? ≠ some 45) (h5 : ∀ c ∈ l, ok c = true) : lab l = true := by
  have h6 : l.all ok = true := by rw [List.all_eq_true]; exact h5
  simp [lab, h1, h2, h3, h4, h6]

theorem ok_45 : ok 45 = true := by decide
theorem ok_48 : ok 48 = true := by decide

/-- THE CUT -/
theorem lab_cut (l : List UInt8) (i : Nat) (h0 : 0 < i) (h1 : i < l.length) :
    lab l = (decide (l.length ≤ 63) && lab (l.take i ++ [48]) && lab (48 :: l.drop i)) := by
  by_cases hl : l.length ≤ 63
  · have e1 : (l.take i ++ [48]).head? = l.head? := by
      cases l with
      | nil => simp at h1
      | cons a t =>
        cases i with
        | zero => omega
        | succ i => simp
    have e2 : (48 :: l.drop i).getLast? = l.getLast? := by
      rw [List.getLast?_cons, List.getLast?_drop, if_neg (by omega)]
      cases e : l.getLast? with
      | none => rw [List.getLast?_eq_none_iff] at e; subst e; simp at h1
      | some x => simp
    have e3 : l.all ok = ((l.take i ++ [48]).all ok && (48 :: l.drop i).all ok) := by
      have e : l.all ok = (l.take i ++ l.drop i).all ok := by rw [List.take_append_drop]
      rw [e, List.all_append, List.all_append, List.all_cons]
      simp only [List.all_cons, List.all_nil, ok_48, Bool.true_and, Bool.and_true]
    have e4 : (l.take i ++ [48]).length = i + 1 := by simp; omega
    have e5 : (48 :: l.drop i).length = l.length - i + 1 := by simp
    have e6 : (l.take i ++ [48]).getLast? = some 48 := by simp
    have e7 : (48 :: l.drop i).head? = some 48 := by simp
    have a1 : 1 ≤ l.length := by omega
    have a2 : i + 1 ≤ 63 := by omega
    have a3 : l.length - i + 1 ≤ 63 := by omega
    unfold lab
    rw [e3, e4, e5, e1, e2, e6, e7]
    simp only [hl, a1, a2, a3]
    cases (l.head? == some 45) <;> cases (l.getLast? == some 45) <;> cases ((l.take i ++ [48]).all ok) <;> cases ((48 :: l.drop i).all ok) <;> simp
  · rw [lab_long (by omega)]; simp [hl]

/-- an inner hyphen counts as a digit -/
theorem lab_inner (a b : List UInt8) (ha : a ≠ []) (hb : b ≠ []) : lab (a ++ 45 :: b) = lab (a ++ 48 :: b) := by
  have e1 : (a ++ 45 :: b).head? = (a ++ 48 :: b).head? := by
    cases a with
    | nil => exact absurd rfl ha
    | cons x t => simp
  have e2 : (a ++ 45 :: b).getLast? = (a ++ 48 :: b).getLast? := by
    cases b with
    | nil => exact absurd rfl hb
    | cons x t => simp [List.getLast?_append, List.getLast?_cons]
  have e3 : (a ++ 45 :: b).all ok = (a ++ 48 :: b).all ok := by
    simp [List.all_append, ok_48, ok_45]
  have e4 : (a ++ 45 :: b).length = (a ++ 48 :: b).length := by simp
  unfold lab
  rw [e1, e2, e3, e4]

theorem lab_edge (a b : List UInt8) (h : a = [] ∨ b = []) : lab (a ++ 45 :: b) = false := by
  rcases h with rfl | rfl
  · exact lab_head (by simp)
  · exact lab_last (by simp)

theorem lab_digits (l : List UInt8) (h1 : 1 ≤ l.length) (h : ∀ c ∈ l, digit c = true) : lab l = decide (l.length ≤ 63) := by
  have dg : ∀ c ∈ l, 48 ≤ c.toNat ∧ c.toNat ≤ 57 := by
    intro c hc
    have := h c hc
    unfold digit at this
    simpa using this
  by_cases hl : l.length ≤ 63
  · rw [lab_good h1 hl, decide_eq_true hl]
    · intro e
      have := dg 45 (List.mem_of_mem_head? (by rw [e]; rfl))
      revert this; decide
    · intro e
      have := dg 45 (List.mem_of_getLast? e)
      revert this; decide
    · intro c hc
      exact ok_yes (Or.inr (Or.inl (dg c hc)))
  · rw [lab_long (by omega)]; simp [hl]

end Go.Proofs.Qxb6628795a.Lab
