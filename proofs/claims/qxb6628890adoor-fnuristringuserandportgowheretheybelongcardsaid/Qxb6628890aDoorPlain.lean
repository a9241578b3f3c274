/-
  THE PLAIN LAWS OF THIS SEAT: what a URI's text is; no Go in sight.
-/
namespace Go.Proofs.Qxb6628890aDoor.Uri

/-- one parameter's text: a semicolon, the name; where the value is not empty, '=' and the value -/
def one (p : ByteArray × ByteArray) : List UInt8 := 59 :: (p.1.data.toList ++ (if p.2.data.toList.isEmpty then [] else 61 :: p.2.data.toList))

/-- the parameters' text -/
def ptext (L : List (ByteArray × ByteArray)) : List UInt8 := L.flatMap one

/-- what the guard counts -/
def tot : List (ByteArray × ByteArray) → Nat
  | [] => 0
  | p :: L => 32 + p.1.size + p.2.size + tot L

theorem data_len (s : ByteArray) : s.data.toList.length = s.size := by simp

theorem one_len (p : ByteArray × ByteArray) : (one p).length ≤ 2 + p.1.size + p.2.size := by
  unfold one
  simp only [List.length_cons, List.length_append, data_len]
  split
  · simp; omega
  · simp only [List.length_cons, data_len]; omega

theorem ptext_len (L : List (ByteArray × ByteArray)) : (ptext L).length ≤ tot L := by
  induction L with
  | nil => simp [ptext, tot]
  | cons p L ih =>
    have h1 := one_len p
    have h2 : ptext (p :: L) = one p ++ ptext L := by simp [ptext]
    rw [h2, List.length_append, tot]
    omega

theorem tot_append (L M : List (ByteArray × ByteArray)) : tot (L ++ M) = tot L + tot M := by
  induction L with
  | nil => simp [tot]
  | cons p L ih => simp only [List.cons_append, tot, ih]; omega

theorem tot_take (L : List (ByteArray × ByteArray)) (k : Nat) : tot (L.take k) ≤ tot L := by
  have := tot_append (L.take k) (L.drop k)
  rw [List.take_append_drop] at this
  omega

theorem tot_drop (L : List (ByteArray × ByteArray)) (k : Nat) : tot (L.drop k) ≤ tot L := by
  have := tot_append (L.take k) (L.drop k)
  rw [List.take_append_drop] at this
  omega

theorem tot_len (L : List (ByteArray × ByteArray)) : 32 * L.length ≤ tot L := by
  induction L with
  | nil => simp [tot]
  | cons p L ih => simp only [List.length_cons, tot]; omega

theorem take_succ (L : List (ByteArray × ByteArray)) (i : Nat) (h : i < L.length) : L.take (i + 1) = L.take i ++ [L[i]] := by
  rw [List.take_succ_eq_append_getElem h]

theorem tot_take_succ (L : List (ByteArray × ByteArray)) (i : Nat) (h : i < L.length) : tot (L.take (i + 1)) = tot (L.take i) + (32 + L[i].1.size + L[i].2.size) := by
  rw [take_succ L i h, tot_append]; simp [tot]

theorem tot_at (L : List (ByteArray × ByteArray)) (i : Nat) (h : i < L.length) : tot (L.take i) + 32 + L[i].1.size + L[i].2.size ≤ tot L := by
  have h1 := tot_take_succ L i h
  have h2 := tot_take L (i + 1)
  omega

theorem ptext_append (L M : List (ByteArray × ByteArray)) : ptext (L ++ M) = ptext L ++ ptext M := by simp [ptext]
theorem ptext_one (p : ByteArray × ByteArray) : ptext [p] = one p := by simp [ptext]

theorem ptext_take_succ (L : List (ByteArray × ByteArray)) (i : Nat) (h : i < L.length) : ptext (L.take (i + 1)) = ptext (L.take i) ++ one L[i] := by
  rw [take_succ L i h, ptext_append, ptext_one]


theorem one_none {p : ByteArray × ByteArray} (h : p.2.data.toList.isEmpty = true) : one p = 59 :: p.1.data.toList := by simp [one, h]
theorem one_some {p : ByteArray × ByteArray} (h : p.2.data.toList.isEmpty = false) : one p = (59 :: p.1.data.toList) ++ (61 :: p.2.data.toList) := by simp [one, h]

/-- 'user@' -/
def utext (u : ByteArray) : List UInt8 := if u.data.toList.isEmpty then [] else u.data.toList ++ [64]
/-- '?headers' -/
def htext (h : ByteArray) : List UInt8 := if h.data.toList.isEmpty then [] else 63 :: h.data.toList

/-- A URI's text, the port's text being 'p' -/
def utext6 (sc us ho : ByteArray) (p : List UInt8) (L : List (ByteArray × ByteArray)) (he : ByteArray) : List UInt8 :=
  sc.data.toList ++ 58 :: (utext us ++ (ho.data.toList ++ (p ++ (ptext L ++ htext he))))

theorem utext_len (u : ByteArray) : (utext u).length ≤ u.size + 1 := by
  unfold utext
  split
  · simp
  · simp
theorem htext_len (u : ByteArray) : (htext u).length ≤ u.size + 1 := by
  unfold htext
  split
  · simp
  · simp

end Go.Proofs.Qxb6628890aDoor.Uri
