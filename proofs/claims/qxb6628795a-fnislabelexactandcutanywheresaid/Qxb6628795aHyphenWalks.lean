import Derived.Test.Qxb6628795aRows
import Derived.WalkKit
import Derived.ProofKit
import Derived.OpenShut
import Derived.ShutString
import Derived.WalkSpells
import Derived.WalkLawsBesides
import Derived.Test.Qxb6628795aLabelWalk
namespace Go.Proofs.Qxb6628795a.Lab
open Go.ChangeShapes Go.WideShapes Go.ChangeAt Go.RowKit

theorem digit_no {c : UInt8} (h : c.toNat < 48 ∨ 57 < c.toNat) : digit c = false := by
  cases e : digit c
  · rfl
  · exfalso; unfold digit at e; simp at e; omega

theorem digit_yes {c : UInt8} (h1 : 48 ≤ c.toNat) (h2 : c.toNat ≤ 57) : digit c = true := by
  unfold digit; simp; omega

def digs (l : List UInt8) : Bool := l.all digit

theorem all_no {s : ByteArray} (k : Nat) (h : k < s.size) (hd : digit s[k] = false) : digs s.data.toList = false := by
  unfold digs; rw [List.all_eq_false]; exact ⟨s[k], mem_at s k h, by simp [hd]⟩

set_option maxHeartbeats 400000 in
theorem allDigits_any (s : ByteArray) (w : World) (hs : s.size ≤ maxLen) :
    Calls Try.prog 9 #[.string s] w fun e w' => e = .returned (.bool (digs s.data.toList)) ∧ w' = w := by
  unfold maxLen at hs
  go_enter Try.func9, Try.ntmps9
  go_wp2
  go_loop [3] (fun k => ∃ pos : Nat, k = .int .i64 pos ∧ pos ≤ s.size ∧ ∀ j (h : j < s.size), j < pos → digit s[j] = true) (fun k => s.size - (intOf k).toNat)
  case atStart => exact ⟨0, rfl, by omega, fun j _ h => by omega⟩
  case round =>
    obtain ⟨pos, rfl, hpos, hall⟩ := hrel
    have HA : Hid (∀ j (h : j < s.size), j < pos → digit s[j] = true) := hall
    clear hall
    by_cases hp : pos < s.size
    · by_cases c1 : s[pos].toNat < 48
      · have HL : Hid (digs s.data.toList = false) := all_no pos hp (digit_no (Or.inl c1))
        go_wp2
        go_ret
        exact ⟨ret_bool HL.out.symm, rfl⟩
      · by_cases c2 : 57 < s[pos].toNat
        · have HL : Hid (digs s.data.toList = false) := all_no pos hp (digit_no (Or.inr c2))
          have d1 : decide ((s[pos].toNat : Int) < 48) = false := by simp; omega
          go_wp2
          go_ret
          exact ⟨ret_bool HL.out.symm, rfl⟩
        · have d1 : decide ((s[pos].toNat : Int) < 48) = false := by simp; omega
          have d2 : decide (57 < (s[pos].toNat : Int)) = false := by simp; omega
          go_wp2
          go_round
          case rel => 
            refine ⟨pos + 1, by go_num, by omega, fun j h hj => ?_⟩
            by_cases e : j = pos
            · subst e; exact digit_yes (by omega) (by omega)
            · exact HA.out j h (by omega)
          case measure => simp [intOf]; omega
    · have HL : Hid (digs s.data.toList = true) := by
        show digs s.data.toList = true
        unfold digs; rw [List.all_eq_true]
        intro c hc
        obtain ⟨k, hk, rfl⟩ := mem_get hc
        exact HA.out k hk (by omega)
      go_wp2
      go_ret
      exact ⟨ret_bool HL.out.symm, rfl⟩

set_option maxHeartbeats 400000 in
theorem bytes8_any (a b : ByteArray) (w : World) (ha : a.size ≤ maxLen) (hb : b.size ≤ maxLen) :
    Calls Try.prog 8 #[.string a, .string b] w fun e w' => e = .returned (.bool (decide (a.size + b.size ≤ 1048576))) ∧ w' = w := by
  unfold maxLen at ha hb
  by_cases h : a.size + b.size ≤ 1048576
  · go_enter Try.func8, Try.ntmps8
    go_wp2
    go_ret
    exact ⟨ret_bool (by simp; omega), rfl⟩
  · go_enter Try.func8, Try.ntmps8
    go_wp2
    all_goals
      go_ret
      exact ⟨ret_bool (by simp; omega), rfl⟩


theorem isLabel_val (s : ByteArray) (b : Bool) (w : World) (hb : lab s.data.toList = b) (hs : s.size ≤ maxLen) :
    Calls Try.prog 6 #[.string s] w fun e w' => e = .returned (.bool b) ∧ Grown w w' := by
  subst hb; exact isLabel_any s w hs
theorem allDigits_val (s : ByteArray) (b : Bool) (w : World) (hb : digs s.data.toList = b) (hs : s.size ≤ maxLen) :
    Calls Try.prog 9 #[.string s] w fun e w' => e = .returned (.bool b) ∧ w' = w := by
  subst hb; exact allDigits_any s w hs

theorem grown_trans {a b c : World} (h1 : Grown a b) (h2 : Grown b c) : Grown a c :=
  ⟨World.keptBut_trans h1.1 (World.keptBut_mono (fun _ f => f.elim) h2.1), fun x => (h2.2.1 x).trans (h1.2.1 x), Nat.le_trans h1.2.2 h2.2.2⟩

theorem cat3 (a b : ByteArray) (c : UInt8) : (a ++ { data := #[c] } ++ b).data.toList = a.data.toList ++ c :: b.data.toList := by
  simp
theorem cat3_size (a b : ByteArray) (c : UInt8) : (a ++ { data := #[c] } ++ b).size = a.size + 1 + b.size := by
  simp [ByteArray.size_append]; rfl


end Go.Proofs.Qxb6628795a.Lab
