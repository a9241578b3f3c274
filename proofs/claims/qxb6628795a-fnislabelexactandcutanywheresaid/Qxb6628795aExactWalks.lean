import Derived.Test.Qxb6628795aRows
import Derived.WalkKit
import Derived.ProofKit
import Derived.OpenShut
import Derived.ShutString
import Derived.WalkSpells
import Derived.WalkLawsBesides
import Derived.Test.Qxb6628795aHyphenWalks
namespace Go.Proofs.Qxb6628795a.Lab
open Go.ChangeShapes Go.WideShapes Go.ChangeAt Go.RowKit

def lod (c : UInt8) : Bool := (decide (97 ≤ c.toNat) && decide (c.toNat ≤ 122)) || (decide (48 ≤ c.toNat) && decide (c.toNat ≤ 57))

set_option maxHeartbeats 400000 in
theorem lod_any (c : UInt8) (w : World) :
    Calls Try.prog 10 #[.int .u8 (c.toNat : Int)] w fun e w' => e = .returned (.bool (lod c)) ∧ w' = w := by
  have hlt := c.toNat_lt
  by_cases c1 : 97 ≤ c.toNat
  · by_cases c2 : c.toNat ≤ 122
    · have HL : Hid (lod c = true) := by show lod c = true; unfold lod; simp; omega
      go_enter Try.func10, Try.ntmps10
      go_wp2
      go_ret
      exact ⟨ret_bool (by rw [HL.out]), rfl⟩
    · have HL : Hid (lod c = false) := by show lod c = false; unfold lod; simp; omega
      have d1 : decide ((c.toNat : Int) ≤ 122) = false := by simp; omega
      have d2 : decide ((c.toNat : Int) ≤ 57) = false := by simp; omega
      go_enter Try.func10, Try.ntmps10
      go_wp2
      go_ret
      exact ⟨ret_bool (by rw [HL.out]), rfl⟩
  · have d0 : decide (97 ≤ (c.toNat : Int)) = false := by simp; omega
    by_cases c2 : 48 ≤ c.toNat
    · by_cases c3 : c.toNat ≤ 57
      · have HL : Hid (lod c = true) := by show lod c = true; unfold lod; simp; omega
        go_enter Try.func10, Try.ntmps10
        go_wp2
        go_ret
        exact ⟨ret_bool (by rw [HL.out]; simp; omega), rfl⟩
      · have HL : Hid (lod c = false) := by show lod c = false; unfold lod; simp; omega
        have d2 : decide ((c.toNat : Int) ≤ 57) = false := by simp; omega
        go_enter Try.func10, Try.ntmps10
        go_wp2
        go_ret
        exact ⟨ret_bool (by rw [HL.out]), rfl⟩
    · have HL : Hid (lod c = false) := by show lod c = false; unfold lod; simp; omega
      have d2 : decide (48 ≤ (c.toNat : Int)) = false := by simp; omega
      go_enter Try.func10, Try.ntmps10
      go_wp2
      go_ret
      exact ⟨ret_bool (by rw [HL.out]), rfl⟩

theorem lod_val (c : UInt8) (b : Bool) (w : World) (h : lod c = b) :
    Calls Try.prog 10 #[.int .u8 (c.toNat : Int)] w fun e w' => e = .returned (.bool b) ∧ w' = w := by
  subst h; exact lod_any c w
theorem ok_lod {c : UInt8} (h : lod c = true) : ok c = true := by
  unfold lod at h; unfold ok; simp at h ⊢; omega
theorem ok_not {c : UInt8} (h : lod c = false) (h2 : (c.toNat : Int) ≠ 45) : ok c = false := by
  apply ok_no; intro hc
  have : lod c = true := by unfold lod; simp; omega
  rw [this] at h; cases h

set_option maxHeartbeats 1000000 in
theorem model_any (s : ByteArray) (w : World) (hs : s.size ≤ maxLen) :
    Calls Try.prog 7 #[.string s] w fun e w' => e = .returned (.bool (lab s.data.toList)) ∧ w' = w := by
  unfold maxLen at hs
  by_cases hz : s.size = 0
  · have hn : s.data.toList = [] := List.eq_nil_of_length_eq_zero (by simpa using hz)
    have HL : Hid (lab s.data.toList = false) := by rw [hn]; exact lab_nil
    have hz' : s.size < 1 := by omega
    clear hn hz
    go_enter Try.func7, Try.ntmps7
    go_wp2
    go_ret
    exact ⟨ret_bool HL.out.symm, rfl⟩
  · have h1 : 0 < s.size := by omega
    clear hz
    have d0 : decide ((s.size : Int) < 1) = false := by simp; omega
    by_cases hl : 63 < s.size
    · have HL : Hid (lab s.data.toList = false) := lab_long (by simpa using hl)
      go_enter Try.func7, Try.ntmps7
      go_wp2
      go_ret
      exact ⟨ret_bool HL.out.symm, rfl⟩
    · have d1 : decide (63 < (s.size : Int)) = false := by simp; omega
      go_enter Try.func7, Try.ntmps7
      go_wp2
      go_loop [4] (fun k => ∃ pos : Nat, k = .int .i64 pos ∧ pos ≤ s.size ∧ ∀ j (h : j < s.size), j < pos → ok s[j] = true ∧ ((j = 0 ∨ j + 1 = s.size) → (s[j].toNat : Int) ≠ 45)) (fun k => s.size - (intOf k).toNat)
      case atStart => exact ⟨0, rfl, by omega, fun j _ h => by omega⟩
      case round =>
        obtain ⟨pos, rfl, hpos, hall⟩ := hrel
        have HA : Hid (∀ j (h : j < s.size), j < pos → ok s[j] = true ∧ ((j = 0 ∨ j + 1 = s.size) → (s[j].toNat : Int) ≠ 45)) := hall
        clear hall
        by_cases hp : pos < s.size
        · by_cases c1 : (s[pos].toNat : Int) = 45
          · have c2 : ((s[pos].toNat : Int) == 45) = true := beq_iff_eq.2 c1
            have c3 := byte_eq c1
            by_cases e0 : pos = 0
            · subst e0
              have HL : Hid (lab s.data.toList = false) := lab_head (by rw [head_at s hp, c3])
              clear c1 c3
              go_wp2
              go_ret
              exact ⟨ret_bool HL.out.symm, rfl⟩
            · have b0 : ((pos : Int) == 0) = false := beq_eq_false_iff_ne.2 (by omega)
              by_cases e1 : pos = s.size - 1
              · have HL : Hid (lab s.data.toList = false) := lab_last (by rw [last_at s h1]; subst e1; rw [c3])
                have b1 : ((pos : Int) == (s.size : Int) - 1) = true := beq_iff_eq.2 (by omega)
                clear c1 c3 e1 e0
                go_wp2
                go_ret
                exact ⟨ret_bool HL.out.symm, rfl⟩
              · have b1 : ((pos : Int) == (s.size : Int) - 1) = false := beq_eq_false_iff_ne.2 (by omega)
                have HK : Hid (ok s[pos] = true) := by rw [c3]; exact ok_45
                clear c1 c3
                go_wp2
                go_round
                case rel =>
                  refine ⟨pos + 1, by go_num, by omega, fun j h hj => ?_⟩
                  by_cases e : j = pos
                  · subst e; exact ⟨HK.out, fun hh => by omega⟩
                  · exact HA.out j h (by omega)
                case measure => simp [intOf]; omega
          · have c2 : ((s[pos].toNat : Int) == 45) = false := beq_eq_false_iff_ne.2 c1
            cases hb : lod s[pos] with
            | false =>
              have HL : Hid (lab s.data.toList = false) := lab_bad (mem_at s pos hp) (ok_not hb c1)
              have HB : Hid (lod s[pos] = false) := hb
              clear hb c1
              go_wp2_with (go_at_call 10; refine (lod_val _ false _ HB.out).mono ?_; rintro e w' ⟨rfl, rfl⟩)
              go_ret
              exact ⟨ret_bool HL.out.symm, rfl⟩
            | true =>
              have HB : Hid (lod s[pos] = true) := hb
              have HC : Hid (¬ (s[pos].toNat : Int) = 45) := c1
              clear hb c1
              go_wp2_with (go_at_call 10; refine (lod_val _ true _ HB.out).mono ?_; rintro e w' ⟨rfl, rfl⟩)
              go_round
              case rel =>
                refine ⟨pos + 1, by go_num, by omega, fun j h hj => ?_⟩
                by_cases e : j = pos
                · subst e; exact ⟨ok_lod HB.out, fun _ => HC.out⟩
                · exact HA.out j h (by omega)
              case measure => simp [intOf]; omega
        · have HL : Hid (lab s.data.toList = true) := by
            refine lab_of s (by omega) h1 ?_ ?_ (fun j h => (HA.out j h (by omega)).1)
            · exact beq_eq_false_iff_ne.2 ((HA.out 0 h1 (by omega)).2 (Or.inl rfl))
            · exact beq_eq_false_iff_ne.2 ((HA.out (s.size - 1) (by omega) (by omega)).2 (Or.inr (by omega)))
          go_wp2
          go_ret
          exact ⟨ret_bool HL.out.symm, rfl⟩

set_option maxHeartbeats 400000 in
theorem bytes5_any (a : ByteArray) (i : Int) (w : World) (ha : a.size ≤ maxLen) :
    Calls Try.prog 5 #[.string a, .int .i64 i] w fun e w' => e = .returned (.bool (decide (a.size ≤ 1048576))) ∧ w' = w := by
  unfold maxLen at ha
  by_cases h : a.size ≤ 1048576
  · go_enter Try.func5, Try.ntmps5
    go_wp2
    go_ret
    exact ⟨ret_bool (by simp; omega), rfl⟩
  · go_enter Try.func5, Try.ntmps5
    go_wp2
    all_goals
      go_ret
      exact ⟨ret_bool (by simp; omega), rfl⟩

theorem model_val (s : ByteArray) (b : Bool) (w : World) (hb : lab s.data.toList = b) (hs : s.size ≤ maxLen) :
    Calls Try.prog 7 #[.string s] w fun e w' => e = .returned (.bool b) ∧ w' = w := by
  subst hb; exact model_any s w hs

theorem left_size (a : ByteArray) (i : Nat) (h : i < a.size) : (a.extract 0 i ++ { data := #[48] }).size = i + 1 := by
  simp [ByteArray.size_append, ByteArray.size_extract]
  have : (ByteArray.mk #[48]).size = 1 := rfl
  omega
theorem right_size (a : ByteArray) (i : Nat) : (({ data := #[48] } : ByteArray) ++ a.extract i a.size).size = 1 + (a.size - i) := by
  simp [ByteArray.size_append, ByteArray.size_extract]
  rfl
theorem left_list (a : ByteArray) (i : Nat) : (a.extract 0 i ++ { data := #[48] }).data.toList = a.data.toList.take i ++ [48] := by
  simp
theorem right_list (a : ByteArray) (i : Nat) : (({ data := #[48] } : ByteArray) ++ a.extract i a.size).data.toList = 48 :: a.data.toList.drop i := by
  simp
  exact List.take_of_length_le (by simp)


end Go.Proofs.Qxb6628795a.Lab
