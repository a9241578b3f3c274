/-
  The plain facts of the law that cuts at any parameter.
-/
import Derived.Test.Qxb6628890aDoorCuts
namespace Go.Proofs.Qxb6628890aDoor.Uri
open Go.RowKit Go.Proofs.Qxb6628890aDoor

theorem prefix_get {s p : ByteArray} {t : List UInt8} (e : s.data.toList = p.data.toList ++ t) : ∃ h : p.size ≤ s.size, ∀ i (hi : i < p.size), s[i]'(by omega) = p[i] := by
  have hl : s.size = p.size + t.length := by
    have := congrArg List.length e
    simpa using this
  refine ⟨by omega, fun i hi => ?_⟩
  have h1 : s.data.toList[i]'(by simp; omega) = p.data.toList[i]'(by simpa using hi) := by
    simp only [e]
    rw [List.getElem_append_left]
  simp only [Array.getElem_toList] at h1
  exact h1

theorem suffix_get {s p : ByteArray} {t : List UInt8} (e : s.data.toList = t ++ p.data.toList) : ∃ h : p.size ≤ s.size, ∀ i (hi : i < p.size), s[s.size - p.size + i]'(by omega) = p[i] := by
  have hl : s.size = t.length + p.size := by
    have := congrArg List.length e
    simpa using this
  refine ⟨by omega, fun i hi => ?_⟩
  have hx : s.size - p.size + i < s.data.toList.length := by simp; omega
  have h1 : s.data.toList[s.size - p.size + i]'hx = p.data.toList[i]'(by simpa using hi) := by
    simp only [e]
    rw [List.getElem_append_right (by omega)]
    congr 1
    omega
  simp only [Array.getElem_toList] at h1
  exact h1

theorem htext_nil : htext { data := #[] } = [] := rfl
theorem utext_nil : utext { data := #[] } = [] := rfl

section
variable {sc us ho he rf rh rt : ByteArray} {p : List UInt8} {L : List (ByteArray × ByteArray)} {k : Nat}

theorem tail_text (et : rt.data.toList = utext6 { data := #[] } { data := #[] } { data := #[] } (ptx 0) (L.drop k) he) : rt.data.toList = 58 :: (ptext (L.drop k) ++ htext he) := by
  rw [et]; simp [utext6, utext_nil, ptx]

theorem tail_size (et : rt.data.toList = 58 :: (ptext (L.drop k) ++ htext he)) (hT : tot L ≤ 1048576) (hS : he.size ≤ 1048576) : 0 < rt.size ∧ rt.size ≤ 2097160 := by
  have h1 := ptext_len (L.drop k)
  have h2 := tot_drop L k
  have h3 := htext_len he
  have h4 := congrArg List.length et
  simp at h4
  omega

theorem tail_first (et : rt.data.toList = 58 :: (ptext (L.drop k) ++ htext he)) (h : 0 < rt.size) : rt[0] = 58 := by
  have h1 : rt.data.toList[0]'(by simpa using h) = 58 := by simp only [et]; rfl
  simp only [Array.getElem_toList] at h1
  exact h1

theorem rest_text (et : rt.data.toList = 58 :: (ptext (L.drop k) ++ htext he)) : (rt.extract 1 rt.size).data.toList = ptext (L.drop k) ++ htext he := by
  have e : (rt.extract 1 rt.size).data.toList = rt.data.toList.drop 1 := by
    simp
    exact List.take_of_length_le (by simp)
  rw [e, et]; rfl

theorem head_size (eh : rh.data.toList = utext6 sc us ho p (L.take k) { data := #[] }) (hp : p.length ≤ 22) (hT : tot L ≤ 1048576) (hS : sc.size + us.size + ho.size + he.size ≤ 1048576) : rh.size ≤ 2097300 := by
  have h1 := ptext_len (L.take k)
  have h2 := tot_take L k
  have h3 := utext_len us
  have h4 := congrArg List.length eh
  simp [utext6, htext_nil] at h4
  omega

theorem full_is (ef : rf.data.toList = utext6 sc us ho p L he) (eh : rh.data.toList = utext6 sc us ho p (L.take k) { data := #[] }) (et : rt.data.toList = 58 :: (ptext (L.drop k) ++ htext he)) :
    (rf.toList == (rh ++ rt.extract 1 rt.size).toList) = true := by
  rw [ByteArray.toList_eq, ByteArray.toList_eq, ByteArray.data_append, Array.toList_append, rest_text et, ef, eh, beq_iff_eq]
  have e : ptext L = ptext (L.take k) ++ ptext (L.drop k) := by rw [← ptext_append, List.take_append_drop]
  simp [utext6, htext_nil, e]

theorem drop_at (h : k < L.length) : ptext (L.drop k) = one L[k] ++ ptext (L.drop (k + 1)) := by
  rw [← List.getElem_cons_drop h]
  show ptext ([L[k]] ++ L.drop (k + 1)) = _
  rw [ptext_append, ptext_one]

theorem rest_end (et : rt.data.toList = 58 :: (ptext (L.drop k) ++ htext he)) (hk : k = L.length) : (rt.extract 1 rt.size).data.toList = htext he := by
  rw [rest_text et, List.drop_of_length_le (by omega)]; simp [ptext]
end

end Go.Proofs.Qxb6628890aDoor.Uri
