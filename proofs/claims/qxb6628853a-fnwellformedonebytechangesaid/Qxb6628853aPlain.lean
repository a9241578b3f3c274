/-
  THE PLAIN LAWS OF THIS SEAT: no Go in sight.
-/
namespace Go.Proofs.Qxb6628853a.Cod

/-- an ASCII digit -/
def digit (c : UInt8) : Bool := decide (48 ≤ c.toNat) && decide (c.toNat ≤ 57)

/-- six ASCII digits -/
def wf (l : List UInt8) : Bool := decide (l.length = 6) && l.all digit

/-- the first k bytes, read as decimal places -/
def parTo (l : List UInt8) : Nat → Int
  | 0 => 0
  | k + 1 => parTo l k * 10 + (((l.getD k 0).toNat : Int) - 48)

/-- a number's six decimal places, as numbers of bytes -/
def ren6 (n : Int) : List Int := [48 + n / 10 / 10 / 10 / 10 / 10 % 10, 48 + n / 10 / 10 / 10 / 10 % 10, 48 + n / 10 / 10 / 10 % 10, 48 + n / 10 / 10 % 10, 48 + n / 10 % 10, 48 + n % 10]

def bytesOf (xs : List Int) : List UInt8 := xs.map fun n => UInt8.ofNat n.toNat

theorem digit_iff (c : UInt8) : digit c = true ↔ 48 ≤ c.toNat ∧ c.toNat ≤ 57 := by
  unfold digit; simp

theorem digit_yes {c : UInt8} (h1 : 48 ≤ c.toNat) (h2 : c.toNat ≤ 57) : digit c = true := (digit_iff c).2 ⟨h1, h2⟩
theorem digit_no {c : UInt8} (h : c.toNat < 48 ∨ 57 < c.toNat) : digit c = false := by
  cases e : digit c
  · rfl
  · exfalso; rw [digit_iff] at e; omega

theorem wf_len {l : List UInt8} (h : l.length ≠ 6) : wf l = false := by simp [wf, h]
theorem wf_bad {l : List UInt8} {c : UInt8} (h : c ∈ l) (hc : digit c = false) : wf l = false := by
  have : l.all digit = false := by
    rw [List.all_eq_false]; exact ⟨c, h, by simp [hc]⟩
  simp [wf, this]
theorem wf_good {l : List UInt8} (h : l.length = 6) (hd : ∀ c ∈ l, digit c = true) : wf l = true := by
  have : l.all digit = true := by rw [List.all_eq_true]; exact hd
  simp [wf, this, h]

theorem six {l : List UInt8} (h : l.length = 6) : ∃ a b c d e f, l = [a, b, c, d, e, f] := by
  match l, h with
  | [a, b, c, d, e, f], _ => exact ⟨a, b, c, d, e, f, rfl⟩

theorem par6 (a b c d e f : UInt8) : parTo [a, b, c, d, e, f] 6 = ((((((a.toNat : Int) - 48) * 10 + ((b.toNat : Int) - 48)) * 10 + ((c.toNat : Int) - 48)) * 10 + ((d.toNat : Int) - 48)) * 10 + ((e.toNat : Int) - 48)) * 10 + ((f.toNat : Int) - 48) := by
  simp [parTo]

theorem wf_six (a b c d e f : UInt8) : wf [a, b, c, d, e, f] = true ↔ (48 ≤ a.toNat ∧ a.toNat ≤ 57) ∧ (48 ≤ b.toNat ∧ b.toNat ≤ 57) ∧ (48 ≤ c.toNat ∧ c.toNat ≤ 57) ∧ (48 ≤ d.toNat ∧ d.toNat ≤ 57) ∧ (48 ≤ e.toNat ∧ e.toNat ≤ 57) ∧ (48 ≤ f.toNat ∧ f.toNat ≤ 57) := by
  simp [wf, digit_iff]

theorem par_bounds {l : List UInt8} (h : wf l = true) : 0 ≤ parTo l 6 ∧ parTo l 6 ≤ 999999 := by
  have hl : l.length = 6 := by unfold wf at h; simp at h; exact h.1
  obtain ⟨a, b, c, d, e, f, rfl⟩ := six hl
  rw [wf_six] at h
  rw [par6]
  omega

theorem byte_back (n : Int) (c : UInt8) (h : n = c.toNat) : UInt8.ofNat n.toNat = c := by
  subst h; simp

theorem ren_par {l : List UInt8} (h : wf l = true) : bytesOf (ren6 (parTo l 6)) = l := by
  have hl : l.length = 6 := by unfold wf at h; simp at h; exact h.1
  obtain ⟨a, b, c, d, e, f, rfl⟩ := six hl
  rw [wf_six] at h
  rw [par6]
  unfold bytesOf ren6
  simp only [List.map_cons, List.map_nil]
  rw [byte_back _ a (by omega), byte_back _ b (by omega), byte_back _ c (by omega), byte_back _ d (by omega), byte_back _ e (by omega), byte_back _ f (by omega)]

theorem ren_digit (n : Int) : digit (UInt8.ofNat (48 + n % 10).toNat) = true := by
  rw [digit_iff, UInt8.toNat_ofNat']
  omega

theorem wf_ren (n : Int) : wf (bytesOf (ren6 n)) = true := by
  simp [wf, bytesOf, ren6, ren_digit]

/-- READ AND WRITTEN BACK -/
theorem round_in (l : List UInt8) : (bytesOf (ren6 (parTo l 6)) == l) = wf l := by
  cases h : wf l with
  | true => rw [ren_par h]; simp
  | false =>
    rw [beq_eq_false_iff_ne]
    intro e
    have := wf_ren (parTo l 6)
    rw [e, h] at this
    cases this

theorem par_step (l : List UInt8) (k : Nat) (B : Int) (h1 : -B ≤ parTo l k) (h2 : parTo l k ≤ B) : -(B * 10 + 208) ≤ parTo l (k + 1) ∧ parTo l (k + 1) ≤ B * 10 + 208 := by
  have := (l.getD k 0).toNat_lt
  simp only [parTo]
  generalize parTo l k = x at *
  generalize (l.getD k 0).toNat = y at *
  omega

theorem par_bd (l : List UInt8) (k : Nat) (h : k ≤ 6) : -300000000 ≤ parTo l k ∧ parTo l k ≤ 300000000 := by
  have b0 : -0 ≤ parTo l 0 ∧ parTo l 0 ≤ 0 := by simp [parTo]
  have b1 := par_step l 0 0 b0.1 b0.2
  have b2 := par_step l 1 _ b1.1 b1.2
  have b3 := par_step l 2 _ b2.1 b2.2
  have b4 := par_step l 3 _ b3.1 b3.2
  have b5 := par_step l 4 _ b4.1 b4.2
  have b6 := par_step l 5 _ b5.1 b5.2
  simp only [Nat.reduceAdd] at b1 b2 b3 b4 b5 b6
  have hk : k = 0 ∨ k = 1 ∨ k = 2 ∨ k = 3 ∨ k = 4 ∨ k = 5 ∨ k = 6 := by omega
  rcases hk with rfl | rfl | rfl | rfl | rfl | rfl | rfl <;> omega

/-- THE CUT -/
theorem all_split (l m : List UInt8) (hz : ∀ c ∈ m, digit c = true) (k : Nat) : l.all digit = ((l.take k ++ m.drop k).all digit && (m.take k ++ l.drop k).all digit) := by
  have e : l.all digit = (l.take k ++ l.drop k).all digit := by rw [List.take_append_drop]
  have e1 : (m.take k).all digit = true := by rw [List.all_eq_true]; exact fun c hc => hz c (List.mem_of_mem_take hc)
  have e2 : (m.drop k).all digit = true := by rw [List.all_eq_true]; exact fun c hc => hz c (List.mem_of_mem_drop hc)
  rw [e, List.all_append, List.all_append, List.all_append, e1, e2]
  simp

theorem wf_cut (l : List UInt8) (k : Nat) (hl : l.length = 6) (hk : k ≤ 6) :
    wf l = (wf (l.take k ++ [48, 48, 48, 48, 48, 48].drop k) && wf ([48, 48, 48, 48, 48, 48].take k ++ l.drop k)) := by
  have h1 : (l.take k ++ [48, 48, 48, 48, 48, 48].drop k).length = 6 := by simp; omega
  have h2 : (([48, 48, 48, 48, 48, 48] : List UInt8).take k ++ l.drop k).length = 6 := by simp; omega
  unfold wf
  rw [h1, h2, hl, all_split l [48, 48, 48, 48, 48, 48] (by decide) k]
  simp

theorem digit48 : digit 48 = true := by decide

/-- ONE BYTE CHANGED -/
theorem wf_one (l m : List UInt8) (c : UInt8) : wf (l ++ c :: m) = (wf (l ++ 48 :: m) && wf [48, 48, 48, 48, 48, c]) := by
  have e1 : (l ++ c :: m).length = (l ++ 48 :: m).length := by simp
  have e2 : wf [48, 48, 48, 48, 48, c] = digit c := by simp [wf, digit48]
  rw [e2]
  unfold wf
  rw [e1]
  simp only [List.all_append, List.all_cons, digit48]
  cases decide ((l ++ 48 :: m).length = 6) <;> cases l.all digit <;> cases digit c <;> cases m.all digit <;> rfl

end Go.Proofs.Qxb6628853a.Cod
