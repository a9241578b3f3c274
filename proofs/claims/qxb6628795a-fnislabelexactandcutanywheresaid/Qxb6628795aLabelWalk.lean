import Derived.Test.Qxb6628795aRows
import Derived.WalkKit
import Derived.ProofKit
import Derived.OpenShut
import Derived.ShutString
import Derived.WalkSpells
import Derived.WalkLawsBesides
import Derived.Test.Qxb6628795aPlain
namespace Go.Proofs.Qxb6628795a.Lab
open Go.ChangeShapes Go.WideShapes Go.ChangeAt Go.RowKit

theorem Grown_iter (w : World) (s : ByteArray) (pos : Nat) : Grown w (w.iter s pos) := by
  refine ⟨World.keptBut_alloc _ _ _, fun a => ?_, by show w.heap.size ≤ (w.heap.push _).size; simp⟩
  by_cases h : a.block = w.heap.size
  · have e1 : (w.iter s pos).heap[a.block]? = some (.stringIter s pos) := by rw [h]; exact (MapKept.heap_alloc w _).1
    have e2 : w.heap[a.block]? = none := by rw [h]; simp
    simp [World.frozen?, e1, e2]
  · exact World.frozen?_alloc_old _ _ _ h

theorem ret_bool {a b : Bool} (h : a = b) : Ending.returned (.bool a) = .returned (.bool b) := by rw [h]

theorem mem_at (s : ByteArray) (k : Nat) (h : k < s.size) : s[k] ∈ s.data.toList := by
  have : s[k] = s.data.toList[k]'(by simpa using h) := by simp; rfl
  rw [this]; exact List.getElem_mem _

theorem mem_get {s : ByteArray} {c : UInt8} (h : c ∈ s.data.toList) : ∃ k, ∃ h : k < s.size, s[k] = c := by
  obtain ⟨k, hk, e⟩ := List.getElem_of_mem h
  exact ⟨k, by simpa using hk, by rw [← e]; simp; rfl⟩

theorem head_at (s : ByteArray) (h : 0 < s.size) : s.data.toList.head? = some s[0] := by
  rw [List.head?_eq_getElem?, List.getElem?_eq_getElem (by simpa using h)]; simp; rfl
theorem last_at (s : ByteArray) (h : 0 < s.size) : s.data.toList.getLast? = some s[s.size - 1] := by
  rw [List.getLast?_eq_getElem?, List.getElem?_eq_getElem (by simp; omega)]; simp; rfl
theorem byte_ne {c : UInt8} (h : ((c.toNat : Int) == 45) = false) : c ≠ 45 := by
  rintro rfl; revert h; decide
theorem byte_eq {c : UInt8} (h : (c.toNat : Int) = 45) : c = 45 := by
  apply UInt8.toNat.inj; rw [show (45 : UInt8).toNat = 45 from rfl]; omega

theorem lab_of (s : ByteArray) (hs : s.size ≤ 63) (h1 : 0 < s.size) (h0 : ((s[0].toNat : Int) == 45) = false) (h9 : ((s[s.size - 1].toNat : Int) == 45) = false)
    (hall : ∀ j (h : j < s.size), Lab.ok s[j] = true) : Lab.lab s.data.toList = true := by
  refine Lab.lab_good (by simp; omega) (by simpa using hs) ?_ ?_ ?_
  · rw [head_at s h1]; simpa using byte_ne h0
  · rw [last_at s h1]; simpa using byte_ne h9
  · intro c hc
    obtain ⟨k, hk, rfl⟩ := mem_get hc
    exact hall k hk

set_option maxHeartbeats 1000000 in
theorem isLabel_loop (s : ByteArray) (w : World) (hs : s.size ≤ 63) (h1 : 0 < s.size) (he : s.toList.isEmpty = false)
   (h0 : ((s[0].toNat : Int) == 45) = false) (h9 : ((s[s.size - 1].toNat : Int) == 45) = false) :
    Calls Try.prog 6 #[.string s] w fun e w' => e = .returned (.bool (Lab.lab s.data.toList)) ∧ Grown w w' := by
  go_enter Try.func6, Try.ntmps6
  go_wp2
  go_loopw [2] (fun _ w' => ∃ (pos : Nat), w' = w.iter s pos ∧ pos ≤ s.size ∧ ∀ j (h : j < s.size), j < pos → Lab.ok s[j] = true) (fun _ w' => s.size - w'.iterPos w.heap.size)
  case atStart => exact ⟨0, rfl, by omega, fun j _ h => by omega⟩
  case round =>
    obtain ⟨pos, rfl, hpos, hall⟩ := hrel
    by_cases hp : pos < s.size
    · have hlt := (s[pos]).toNat_lt
      by_cases ha : s[pos].toNat < 128
      · have hnx : ∀ ty, (Instr.next (.pointer (some ⟨w.heap.size, 0, none⟩)) true ty).run Try.prog (w.iter s pos) = _ := fun ty => run_next_ascii w s pos ty hp ha
        by_cases hok : Lab.ok s[pos] = true
        · have hall2 : ∀ j (h : j < s.size), j < pos + 1 → Lab.ok s[j] = true := by
            intro j h hj
            by_cases e : j = pos
            · subst e; exact hok
            · exact hall j h (by omega)
          have hc : (97 ≤ s[pos].toNat ∧ s[pos].toNat ≤ 122) ∨ (48 ≤ s[pos].toNat ∧ s[pos].toNat ≤ 57) ∨ s[pos].toNat = 45 := by
            by_cases hc : (97 ≤ s[pos].toNat ∧ s[pos].toNat ≤ 122) ∨ (48 ≤ s[pos].toNat ∧ s[pos].toNat ≤ 57) ∨ s[pos].toNat = 45
            · exact hc
            · rw [Lab.ok_no hc] at hok; cases hok
          have HH : Hid (∀ j (h : j < s.size), j < pos + 1 → Lab.ok s[j] = true) := hall2
          clear hall2 hok hall
          rcases hc with ⟨c1, c2⟩ | ⟨c1, c2⟩ | c1
          · go_wp2
            exact ⟨⟨pos + 1, rfl, by omega, HH.out⟩, by simp; omega⟩
          · go_wp2
            exact ⟨⟨pos + 1, rfl, by omega, HH.out⟩, by simp; omega⟩
          · have c2 : ((s[pos].toNat : Int) == 45) = true := beq_iff_eq.2 (by omega)
            have c3 : s[pos].toNat < 46 := by omega
            clear c1
            go_wp2
            exact ⟨⟨pos + 1, rfl, by omega, HH.out⟩, by simp; omega⟩
        · have hc : ¬ ((97 ≤ s[pos].toNat ∧ s[pos].toNat ≤ 122) ∨ (48 ≤ s[pos].toNat ∧ s[pos].toNat ≤ 57) ∨ s[pos].toNat = 45) := by
            intro hc
            exact hok (Lab.ok_yes hc)
          have HL : Hid (Lab.lab s.data.toList = false) := Lab.lab_bad (mem_at s pos hp) (by simpa using hok)
          have c1 : 97 ≤ s[pos].toNat → 122 < s[pos].toNat := by omega
          have c2 : 48 ≤ s[pos].toNat → 57 < s[pos].toNat := by omega
          have c3 : ((s[pos].toNat : Int) == 45) = false := beq_eq_false_iff_ne.2 (by omega)
          clear hc hok hall
          by_cases d1 : 97 ≤ s[pos].toNat
          · have d2 := c1 d1
            have d3 : decide ((s[pos].toNat : Int) ≤ 122) = false := by simp; omega
            have d4 : decide ((s[pos].toNat : Int) ≤ 57) = false := by simp; omega
            clear c1 c2
            go_wp2
            go_ret
            exact ⟨ret_bool HL.out.symm, Grown_iter _ _ _⟩
          · by_cases d2 : 48 ≤ s[pos].toNat
            · have d3 := c2 d2
              have d4 : decide ((s[pos].toNat : Int) ≤ 57) = false := by simp; omega
              clear c1 c2
              go_wp2
              go_ret
              exact ⟨ret_bool HL.out.symm, Grown_iter _ _ _⟩
            · clear c1 c2
              go_wp2
              go_ret
              exact ⟨ret_bool HL.out.symm, Grown_iter _ _ _⟩
      · have HL : Hid (Lab.lab s.data.toList = false) := Lab.lab_bad (mem_at s pos hp) (Lab.ok_no (by omega))
        have hd := decode_high s pos hp (by omega)
        have hdl := decode_le s pos
        have hnx : ∀ ty, (Instr.next (.pointer (some ⟨w.heap.size, 0, none⟩)) true ty).run Try.prog (w.iter s pos) = _ := fun ty => run_next_any w s pos ty hp
        obtain ⟨hd1, hd2⟩ := hd
        generalize Utf8.decode s pos = rw at *
        obtain ⟨r, wd⟩ := rw
        simp only at hd1 hd2 hdl
        have c3 : ((r : Int) == 45) = false := beq_eq_false_iff_ne.2 (by omega)
        have d3 : decide ((r : Int) ≤ 122) = false := by simp; omega
        have d4 : decide ((r : Int) ≤ 57) = false := by simp; omega
        clear hall
        go_wp2
        go_ret
        exact ⟨ret_bool HL.out.symm, Grown_iter _ _ _⟩
    · have hnx : ∀ ty, (Instr.next (.pointer (some ⟨w.heap.size, 0, none⟩)) true ty).run Try.prog (w.iter s pos) = _ := fun ty => run_next_end w s pos ty hp
      have HL : Hid (Lab.lab s.data.toList = true) := lab_of s hs h1 h0 h9 (fun j h => hall j h (by omega))
      clear hall
      go_wp2
      go_ret
      exact ⟨ret_bool HL.out.symm, Grown_iter _ _ _⟩

set_option maxHeartbeats 400000 in
theorem isLabel_any (s : ByteArray) (w : World) (hs : s.size ≤ maxLen) :
    Calls Try.prog 6 #[.string s] w fun e w' => e = .returned (.bool (Lab.lab s.data.toList)) ∧ Grown w w' := by
  unfold maxLen at hs
  by_cases hz : s.size = 0
  · have hn : s.data.toList = [] := List.eq_nil_of_length_eq_zero (by simpa using hz)
    have he : s.toList.isEmpty = true := by rw [ByteArray.toList_eq, hn]; rfl
    have HL : Hid (Lab.lab s.data.toList = false) := by rw [hn]; exact Lab.lab_nil
    clear hn
    clear hz
    go_enter Try.func6, Try.ntmps6
    go_wp2
    go_ret
    exact ⟨ret_bool HL.out.symm, Grown.refl _⟩
  · have h1 : 0 < s.size := by omega
    have he : s.toList.isEmpty = false := by rw [ByteArray.toList_eq]; simp; intro e; apply hz; simp [ByteArray.size, e]
    clear hz
    by_cases hl : 63 < s.size
    · have HL : Hid (Lab.lab s.data.toList = false) := Lab.lab_long (by simpa using hl)
      have hl' : decide ((s.size : Int) ≤ 63) = false := by simp; omega
      go_enter Try.func6, Try.ntmps6
      go_wp2
      go_ret
      exact ⟨ret_bool HL.out.symm, Grown.refl _⟩
    · by_cases h0 : (s[0].toNat : Int) = 45
      · have HL : Hid (Lab.lab s.data.toList = false) := Lab.lab_head (by rw [head_at s h1, byte_eq h0])
        have h0' : ((s[0].toNat : Int) == 45) = true := beq_iff_eq.2 h0
        clear h0
        go_enter Try.func6, Try.ntmps6
        go_wp2
        go_ret
        exact ⟨ret_bool HL.out.symm, Grown.refl _⟩
      · by_cases h9 : (s[s.size - 1].toNat : Int) = 45
        · have HL : Hid (Lab.lab s.data.toList = false) := Lab.lab_last (by rw [last_at s h1, byte_eq h9])
          have h0' : ((s[0].toNat : Int) == 45) = false := beq_eq_false_iff_ne.2 h0
          have h9' : ((s[s.size - 1].toNat : Int) == 45) = true := beq_iff_eq.2 h9
          clear h0 h9
          go_enter Try.func6, Try.ntmps6
          go_wp2
          go_ret
          exact ⟨ret_bool HL.out.symm, Grown.refl _⟩
        · exact isLabel_loop s w (by omega) h1 he (beq_eq_false_iff_ne.2 h0) (beq_eq_false_iff_ne.2 h9)
end Go.Proofs.Qxb6628795a.Lab
