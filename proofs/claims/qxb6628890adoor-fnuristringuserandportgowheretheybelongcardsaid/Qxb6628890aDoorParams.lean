/-
  (message.Params).String: the parameters' text.
-/
import Derived.Test.Qxb6628890aDoorBuilder
import Derived.Test.Qxb6628890aDoorPlain
namespace Go.Proofs.Qxb6628890aDoor.Uri
open Go.RowKit Go.Proofs.Qxb6628890aDoor

/-- the cells of a row of pairs of strings -/
def Pairs (w : World) (blk o : Nat) (L : List (ByteArray × ByteArray)) : Prop :=
  ∀ i (h : i < L.length), w.cell? ⟨blk, o + i * 2, none⟩ = some (.string L[i].1) ∧ w.cell? ⟨blk, o + i * 2 + 1, none⟩ = some (.string L[i].2)

/-- a slice that reads as L -/
def AtL (w : World) (a : Option Addr) (L : List (ByteArray × ByteArray)) : Prop :=
  L = [] ∨ ∃ blk o, a = some ⟨blk, o, none⟩ ∧ blk < w.heap.size ∧ Pairs w blk o L

theorem Pairs.below {w w' : World} {blk o B : Nat} {L : List (ByteArray × ByteArray)} (h : Pairs w blk o L) (hb : Below B w w') (hlt : blk < B) : Pairs w' blk o L := fun i hi =>
  ⟨(hb.cell (p := ⟨blk, o + i * 2, none⟩) hlt).trans (h i hi).1, (hb.cell (p := ⟨blk, o + i * 2 + 1, none⟩) hlt).trans (h i hi).2⟩

theorem AtL.below {w w' : World} {a : Option Addr} {L : List (ByteArray × ByteArray)} (h : AtL w a L) (hb : Below w.heap.size w w') : AtL w' a L := by
  rcases h with h | ⟨blk, o, h1, h2, h3⟩
  · exact Or.inl h
  · exact Or.inr ⟨blk, o, h1, Nat.lt_of_lt_of_le h2 hb.size, h3.below hb h2⟩

theorem below_trans {a b c : World} (h1 : Below a.heap.size a b) (h2 : Below b.heap.size b c) : Below a.heap.size a c := h1.trans (h2.mono h1.size)

theorem str_cells (c : UInt8) (s : ByteArray) : Lib.strCells ({ data := #[c] } ++ s) = Lib.byteCells (c :: s.data.toList) := by
  rw [Lib.strCells_eq]; simp

theorem str_size (c : UInt8) (s : ByteArray) : (({ data := #[c] } : ByteArray) ++ s).size = 1 + s.size := by
  simp [ByteArray.size_append]; rfl

theorem block36 {w W : World} {n v : ByteArray} {B : Nat} (hB : B < w.heap.size) (hk : Lib.OthersKept 5 (some B) (w.alloc (.cells #[.string n, .string v] 36)) W) : W.heap[w.heap.size]? = some (.cells #[.string n, .string v] 36) := by
  refine hk w.heap.size _ ?_ ?_ ?_
  · show (w.heap.push _)[w.heap.size]? = _
    simp
  · intro e; simp at e; omega
  · intro c fz e; simp at e

set_option maxHeartbeats 1000000 in
theorem pstring_in (L : List (ByteArray × ByteArray)) (blk o cap : Nat) (w : World) (hlt : blk < w.heap.size) (hT : tot L ≤ 1048576) (hcell : Pairs w blk o L) :
    Calls Tryd.prog 14 #[.slice (some ⟨blk, o, none⟩) L.length cap] w fun e w' => e = .returned (.string ⟨(ptext L).toArray⟩) ∧ Below w.heap.size w w' := by
  have hlen := tot_len L
  have HT : Hid (tot L ≤ 1048576) := hT
  have hL : L.length ≤ 1048576 := by omega
  clear hT hlen
  have HC : Hid (Pairs w blk o L) := hcell
  clear hcell
  go_enter Tryd.func14, Tryd.ntmps14
  go_wp2
  go_loopw [8] (fun k wr => ∃ i : Nat, k = .int .i64 i ∧ i ≤ L.length ∧ Lib.IsBuilderF 43 5 w.heap.size w.heap.size (Lib.byteCells (ptext (L.take i))) wr ∧ Below w.heap.size w wr ∧ w.heap.size < wr.heap.size) (fun k _ => L.length - (intOf k).toNat)
  case atStart =>
    refine ⟨0, rfl, by omega, Lib.IsBuilderF.of (Lib.fresh_isBuilder 43 5 w), (Below.refl _ _).alloc (Nat.le_refl _) _, by simp⟩
  case round =>
    obtain ⟨i, rfl, hi, hI, hbw, hsz⟩ := hrel
    by_cases hlt2 : i < L.length
    · obtain ⟨g0, g1⟩ := (Pairs.below HC.out hbw hlt) i hlt2
      have ht := tot_at L i hlt2
      have hp := ptext_len (L.take i)
      have hT2 := HT.out
      have HS : Hid (ptext (L.take (i + 1)) = ptext (L.take i) ++ one L[i]) := ptext_take_succ L i hlt2
      obtain ⟨nm, vl, hpr⟩ : ∃ nm vl, L[i] = (nm, vl) := ⟨L[i].1, L[i].2, rfl⟩
      rw [hpr] at g0 g1 ht HS
      simp only at g0 g1 ht
      have b1 : (ptext (L.take i)).length + 1 + nm.size + 1 + vl.size ≤ 1048576 := by omega
      have n1 : nm.size ≤ 1048576 := by omega
      have v1 : vl.size ≤ 1048576 := by omega
      clear hpr ht hp hT2
      have hI2 := hI.alloc (Obj.cells #[.string nm, .string vl] 36)
      have hs1 : (Lib.byteCells (ptext (L.take i))).length + (({ data := #[59] } : ByteArray) ++ nm).size ≤ 140737488355328 := by
        rw [Lib.byteCells_length, str_size]; omega
      have hs2 : w.heap.size ≤ (wr.alloc (Obj.cells #[.string nm, .string vl] 36)).heap.size := by simp; omega
      have HW := writeString_k w.heap.size w.heap.size (Lib.byteCells (ptext (L.take i))) ({ data := #[59] } ++ nm) (wr.alloc (Obj.cells #[.string nm, .string vl] 36)) hI2 hs1 hs2
      clear hs1 hs2
      go_wp2_with fail
      refine HW.mono ?_
      rintro e W1 ⟨rfl, h1, b2, k1⟩
      have hbk := block36 (w := wr) hsz k1
      have q0 : W1.cell? ⟨wr.heap.size, 0, none⟩ = some (.string nm) := by rw [Lib.cell_of_heap hbk]; rfl
      have q1 : W1.cell? ⟨wr.heap.size, 1, none⟩ = some (.string vl) := by rw [Lib.cell_of_heap hbk]; rfl
      have hb3 : Below w.heap.size w W1 := (hbw.alloc (by omega) _).trans b2
      have hz1 : wr.heap.size + 1 ≤ W1.heap.size := by have := b2.size; simp at this; omega
      rw [str_cells, ← Lib.byteCells_append] at h1
      cases hv : vl.toList.isEmpty with
      | true =>
        have HV : Hid (ptext (L.take (i + 1)) = ptext (L.take i) ++ (59 :: nm.data.toList)) := by
          show _ = _
          rw [HS.out, one_none (by rw [← ByteArray.toList_eq]; exact hv)]
        go_wp2
        exact ⟨⟨i + 1, by go_num, by omega, by rw [HV.out]; exact Or.inr h1, hb3, by omega⟩, by simp [intOf]; omega⟩
      | false =>
        have HV : Hid (ptext (L.take (i + 1)) = ptext (L.take i) ++ (59 :: nm.data.toList) ++ (61 :: vl.data.toList)) := by
          show _ = _
          rw [HS.out, one_some (by rw [← ByteArray.toList_eq]; exact hv), List.append_assoc]
        have hs1 : (Lib.byteCells (ptext (L.take i) ++ 59 :: nm.data.toList)).length + (({ data := #[61] } : ByteArray) ++ vl).size ≤ 140737488355328 := by
          rw [Lib.byteCells_length, str_size]; simp; omega
        have hs2 : w.heap.size ≤ W1.heap.size := by omega
        have HW := writeString_k w.heap.size w.heap.size _ ({ data := #[61] } ++ vl) W1 (Or.inr h1) hs1 hs2
        clear hs1
        go_wp2_with fail
        refine HW.mono ?_
        rintro e W2 ⟨rfl, h2, b4, k2⟩
        rw [str_cells, ← Lib.byteCells_append] at h2
        go_wp2
        exact ⟨⟨i + 1, by go_num, by omega, by rw [HV.out]; exact Or.inr h2, hb3.trans b4, by have := b4.size; omega⟩, by simp [intOf]; omega⟩
    · have hii : i = L.length := by omega
      subst hii
      rw [List.take_length] at hI
      go_wp2_with fail
      refine (Tryd.Builder_String_any_k w.heap.size w.heap.size (ptext L) _ hI (by omega)).mono ?_
      rintro e W1 ⟨rfl, _, b1, _⟩
      go_wp2
      go_ret
      exact ⟨rfl, hbw.trans b1⟩

set_option maxHeartbeats 400000 in
theorem pstring_nil (a : Option Addr) (cap : Nat) (w : World) :
    Calls Tryd.prog 14 #[.slice a 0 cap] w fun e w' => e = .returned (.string ⟨(ptext []).toArray⟩) ∧ Below w.heap.size w w' := by
  have hI := Lib.IsBuilderF.of (Lib.fresh_isBuilder 43 5 w)
  have hz : w.heap.size ≤ (w.alloc (.cells #[.pointer none, .slice none 0 0] 43)).heap.size := by simp
  have HW := Tryd.Builder_String_any_k w.heap.size w.heap.size [] _ hI hz
  have hb : Hid (Below w.heap.size w (w.alloc (.cells #[.pointer none, .slice none 0 0] 43))) := (Below.refl _ _).alloc (Nat.le_refl _) _
  clear hI hz
  go_enter Tryd.func14, Tryd.ntmps14
  go_wp2
  refine wp_loop_rounds 1 ?_
  rw [rounds_succ]
  go_wp2_with fail
  refine HW.mono ?_
  rintro e W1 ⟨rfl, _, b1, _⟩
  go_wp2
  go_ret
  exact ⟨rfl, hb.out.trans b1⟩

theorem pstring_any (L : List (ByteArray × ByteArray)) (a : Option Addr) (cap : Nat) (w : World) (hT : tot L ≤ 1048576) (h : AtL w a L) :
    Calls Tryd.prog 14 #[.slice a L.length cap] w fun e w' => e = .returned (.string ⟨(ptext L).toArray⟩) ∧ Below w.heap.size w w' := by
  rcases h with rfl | ⟨blk, o, rfl, h2, h3⟩
  · exact pstring_nil a cap w
  · exact pstring_in L blk o cap w h2 hT h3

end Go.Proofs.Qxb6628890aDoor.Uri
