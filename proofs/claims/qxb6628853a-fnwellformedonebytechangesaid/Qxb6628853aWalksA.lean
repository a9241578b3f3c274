/-
  THE WALKS OF THIS SEAT'S CALLEES: WellFormed, parse6, render6, the two guards.
-/
import Derived.Test.Qxb6628853aRows
import Derived.WalkKit
import Derived.ProofKit
import Derived.OpenShut
import Derived.ShutString
import Derived.WalkSpells
import Derived.WalkLawsBesides
import Derived.Below
import Derived.Test.Qxb6628853aPlain
namespace Go.Proofs.Qxb6628853a.Cod
open Go.ChangeShapes Go.WideShapes Go.ChangeAt Go.RowKit

theorem ret_bool {a b : Bool} (h : a = b) : Ending.returned (.bool a) = .returned (.bool b) := by rw [h]
theorem ret_int {k : IntKind} {a b : Int} (h : a = b) : Ending.returned (.int k a) = .returned (.int k b) := by rw [h]

theorem below_trans {a b c : World} (h1 : Below a.heap.size a b) (h2 : Below b.heap.size b c) : Below a.heap.size a c := h1.trans (h2.mono h1.size)

theorem mem_at (s : ByteArray) (k : Nat) (h : k < s.size) : s[k] ∈ s.data.toList := by
  have : s[k] = s.data.toList[k]'(by simpa using h) := by simp; rfl
  rw [this]; exact List.getElem_mem _

theorem mem_get {s : ByteArray} {c : UInt8} (h : c ∈ s.data.toList) : ∃ k, ∃ h : k < s.size, s[k] = c := by
  obtain ⟨k, hk, e⟩ := List.getElem_of_mem h
  exact ⟨k, by simpa using hk, by rw [← e]; simp; rfl⟩

set_option maxHeartbeats 400000 in
theorem wf6 (s : ByteArray) (w : World) (C : Array Value) (cap : Nat) (hs : s.size = 6)
   (hconv : (convert 9 27 (.string s)).run Try.prog w = .ok (.slice (some ⟨w.heap.size, 0, none⟩) 6 cap) (w.drew.alloc (.cells C 5 (C.size, C.size + 1))))
   (hcell : ∀ j (h : j < s.size), (w.alloc (.cells C 5 (C.size, C.size + 1))).cell? ⟨w.heap.size, j, none⟩ = some (.int .u8 (s[j].toNat : Int))) :
    Calls Try.prog 6 #[.string s] w fun e w' => e = .returned (.bool (wf s.data.toList)) ∧ Below w.heap.size w w' := by
  have Hc : Hid (∀ j (h : j < s.size), (w.alloc (.cells C 5 (C.size, C.size + 1))).cell? ⟨w.heap.size, j, none⟩ = some (.int .u8 (s[j].toNat : Int))) := hcell
  clear hcell
  have bel : Hid (Below w.heap.size w (w.alloc (.cells C 5 (C.size, C.size + 1))).drew) := ((Below.refl _ _).alloc (Nat.le_refl _) _).drew
  go_enter Try.func6, Try.ntmps6
  go_wp2
  go_loop [11] (fun k => ∃ pos : Nat, k = .int .i64 pos ∧ pos ≤ 6 ∧ ∀ j (h : j < s.size), j < pos → digit s[j] = true) (fun k => 6 - (intOf k).toNat)
  case atStart => exact ⟨0, rfl, by omega, fun j _ h => by omega⟩
  case round =>
    obtain ⟨pos, rfl, hpos, hall⟩ := hrel
    have HA : Hid (∀ j (h : j < s.size), j < pos → digit s[j] = true) := hall
    clear hall
    by_cases hp : pos < 6
    · have hp' : pos < s.size := by omega
      have hc := Hc.out pos hp'
      obtain ⟨c, HE⟩ : ∃ c, Hid (s[pos] = c) := ⟨s[pos], (rfl : s[pos] = s[pos])⟩
      rw [HE.out] at hc
      have hlt := c.toNat_lt
      by_cases c1 : c.toNat < 48
      · have HL : Hid (wf s.data.toList = false) := wf_bad (mem_at s pos hp') (by rw [HE.out]; exact digit_no (Or.inl c1))
        go_wp2
        go_ret
        exact ⟨ret_bool HL.out.symm, bel.out⟩
      · have d1 : decide ((c.toNat : Int) < 48) = false := by simp; omega
        by_cases c2 : 57 < c.toNat
        · have HL : Hid (wf s.data.toList = false) := wf_bad (mem_at s pos hp') (by rw [HE.out]; exact digit_no (Or.inr c2))
          go_wp2
          go_ret
          exact ⟨ret_bool HL.out.symm, bel.out⟩
        · have d2 : decide (57 < (c.toNat : Int)) = false := by simp; omega
          go_wp2
          go_round
          case rel =>
            refine ⟨pos + 1, by go_num, by omega, fun j h hj => ?_⟩
            by_cases e : j = pos
            · subst e; rw [HE.out]; exact digit_yes (by omega) (by omega)
            · exact HA.out j h (by omega)
          case measure => simp [intOf]; omega
    · have HL : Hid (wf s.data.toList = true) := by
        refine wf_good (by simpa using hs) (fun c hc => ?_)
        obtain ⟨k, hk, rfl⟩ := mem_get hc
        exact HA.out k hk (by omega)
      go_wp2
      go_ret
      exact ⟨ret_bool HL.out.symm, bel.out⟩

set_option maxHeartbeats 400000 in
theorem wf_any (s : ByteArray) (w : World) :
    Calls Try.prog 6 #[.string s] w fun e w' => e = .returned (.bool (wf s.data.toList)) ∧ Below w.heap.size w w' := by
  by_cases h : s.size = 6
  · have hcv := run_bytes_of_string (P := Try.prog) w 9 27 5 s Try.underlying9 Try.underlying27 Try.underlying5
    refine wf6 s w (bytesRow s (grownCap w s.size 0 5)) (grownCap w s.size 0 5) h ?_ ?_
    · rw [hcv, h]
    · intro j hj
      rw [World.cell?_alloc_mark, bytesRow_at s _ j hj]
      rfl
  · have HL : Hid (wf s.data.toList = false) := wf_len (by simpa using h)
    have hne : ((s.size : Int) != 6) = true := by rw [bne_iff_ne]; omega
    clear h
    go_enter Try.func6, Try.ntmps6
    go_wp2
    go_ret
    exact ⟨ret_bool HL.out.symm, Below.refl _ _⟩

theorem wf_val (s : ByteArray) (b : Bool) (w : World) (hb : wf s.data.toList = b) :
    Calls Try.prog 6 #[.string s] w fun e w' => e = .returned (.bool b) ∧ Below w.heap.size w w' := by
  subst hb; exact wf_any s w

theorem getD_at (s : ByteArray) (k : Nat) (h : k < s.size) : s.data.toList.getD k 0 = s[k] := by
  rw [List.getD_eq_getElem?_getD, List.getElem?_eq_getElem (by simpa using h)]; simp; rfl

set_option maxHeartbeats 400000 in
theorem parse_any (s : ByteArray) (w : World) (hs : s.size = 6) :
    Calls Try.prog 8 #[.string s] w fun e w' => e = .returned (.int .i64 (parTo s.data.toList 6)) ∧ w' = w := by
  go_enter Try.func8, Try.ntmps8
  go_wp2
  go_loop [3, 4] (fun n j => ∃ k : Nat, k ≤ 6 ∧ j = .int .i64 k ∧ n = .int .i64 (parTo s.data.toList k)) (fun _ j => 6 - (intOf j).toNat)
  case atStart => exact ⟨0, by omega, rfl, rfl⟩
  case round =>
    obtain ⟨k, hk, rfl, rfl⟩ := hrel
    obtain ⟨b1, b2⟩ := par_bd s.data.toList k hk
    by_cases hlt : k < 6
    · have hk' : k < s.size := by omega
      have hb := s[k].toNat_lt
      have HS : Hid (parTo s.data.toList (k + 1) = parTo s.data.toList k * 10 + ((s[k].toNat : Int) - 48)) := by
        show _ = _
        rw [← getD_at s k hk']; rfl
      generalize parTo s.data.toList k = x at *
      go_wp2
      go_round
      case rel => exact ⟨k + 1, by omega, by go_num, by rw [HS.out]⟩
      case measure => simp [intOf]; omega
    · have : k = 6 := by omega
      subst this
      go_wp2
      go_ret
      exact ⟨rfl, rfl⟩

theorem back6 (w : World) (a b c d e f : Int) :
    (convert 27 9 (.slice (some ⟨w.heap.size, 0, none⟩) 6 6)).run Try.prog (w.alloc (.cells #[.int .u8 a, .int .u8 b, .int .u8 c, .int .u8 d, .int .u8 e, .int .u8 f] 5)) =
      .ok (.string (strOfNums [a, b, c, d, e, f])) (w.alloc (.cells #[.int .u8 a, .int .u8 b, .int .u8 c, .int .u8 d, .int .u8 e, .int .u8 f] 5)) := by
  refine run_convert_bytes_arg (P := Try.prog) _ 27 5 Try.underlying27 Try.underlying5 _ 0 6 6 [a, b, c, d, e, f] rfl (fun i hi => ?_) 9 Try.underlying9
  rw [World.cell?_alloc_mark]
  have : i = 0 ∨ i = 1 ∨ i = 2 ∨ i = 3 ∨ i = 4 ∨ i = 5 := by omega
  rcases this with rfl | rfl | rfl | rfl | rfl | rfl <;> rfl

set_option maxHeartbeats 1000000 in
theorem ren_in (n : Int) (w : World) (h0 : 0 ≤ n) (h1 : n ≤ 999999) :
    Calls Try.prog 7 #[.int .i64 n] w fun e w' => e = .returned (.string (strOfNums (ren6 n))) ∧ Below w.heap.size w w' := by
  have hmk : ∀ w, (Instr.makeSlice 27 (.int .i64 6) (.int .i64 6)).run Try.prog w = .ok (.slice (some ⟨w.heap.size, 0, none⟩) 6 6) (w.alloc (.cells #[.int .u8 0, .int .u8 0, .int .u8 0, .int .u8 0, .int .u8 0, .int .u8 0] 5)) := fun _ => by kernel_rfl
  have hbk := back6 w
  have d0 : decide (n < 0) = false := by simp; omega
  have d1 : decide (999999 < n) = false := by simp; omega
  go_enter Try.func7, Try.ntmps7
  go_wp2
  refine wp_loop_rounds 7 ?_
  rw [rounds_succ]
  go_wp2
  rw [rounds_succ]
  go_wp2
  rw [rounds_succ]
  go_wp2
  rw [rounds_succ]
  go_wp2
  rw [rounds_succ]
  go_wp2
  rw [rounds_succ]
  go_wp2
  rw [rounds_succ]
  go_wp2
  go_ret
  exact ⟨rfl, (Below.refl _ _).alloc (Nat.le_refl _) _⟩

set_option maxHeartbeats 400000 in
theorem ren_out (n : Int) (w : World) (h : n < 0 ∨ 999999 < n) :
    Calls Try.prog 7 #[.int .i64 n] w fun e w' => e = .returned (.string { data := #[] }) ∧ Below w.heap.size w w' := by
  by_cases h0 : n < 0
  · clear h
    go_enter Try.func7, Try.ntmps7
    go_wp2
    go_ret
    exact ⟨rfl, Below.refl _ _⟩
  · have h1 : 999999 < n := by omega
    have d0 : decide (n < 0) = false := by simp; omega
    clear h
    go_enter Try.func7, Try.ntmps7
    go_wp2
    go_ret
    exact ⟨rfl, Below.refl _ _⟩

/-- WHAT THE LAW ASKS OF render6(parse6(t)) -/
theorem ren_of (t : ByteArray) (w : World) (ht : t.size = 6) :
    Calls Try.prog 7 #[.int .i64 (parTo t.data.toList 6)] w fun e w' => ∃ r, e = .returned (.string r) ∧ Hid ((r.toList == t.toList) = wf t.data.toList) ∧ Below w.heap.size w w' := by
  by_cases h : 0 ≤ parTo t.data.toList 6 ∧ parTo t.data.toList 6 ≤ 999999
  · refine (ren_in _ w h.1 h.2).mono ?_
    rintro e w' ⟨rfl, hb⟩
    refine ⟨_, rfl, ?_, hb⟩
    show _ = _
    rw [ByteArray.toList_eq, ByteArray.toList_eq, strOfNums_data]
    exact round_in _
  · refine (ren_out _ w (by omega)).mono ?_
    rintro e w' ⟨rfl, hb⟩
    refine ⟨_, rfl, ?_, hb⟩
    show _ = _
    rw [ByteArray.toList_eq, ByteArray.toList_eq]
    cases hw : wf t.data.toList with
    | true => exact absurd (par_bounds hw) h
    | false =>
      rw [beq_eq_false_iff_ne]
      intro e
      have : t.data.toList.length = 6 := by simpa using ht
      rw [← e] at this
      cases this

set_option maxHeartbeats 400000 in
theorem bytes5_any (a : ByteArray) (i : Int) (w : World) (ha : a.size ≤ maxLen) :
    Calls Try.prog 5 #[.string a, .int .i64 i] w fun e w' => e = .returned (.bool (decide (a.size ≤ 1048576))) ∧ w' = w := by
  unfold maxLen at ha
  by_cases h : a.size ≤ 1048576
  · go_enter Try.func5, Try.ntmps5
    go_wp2
    go_ret
    exact ⟨ret_bool (by simp; omega), rfl⟩
  · go_enter Try.func5, Try.ntmps5
    go_wp2
    all_goals
      go_ret
      exact ⟨ret_bool (by simp; omega), rfl⟩

set_option maxHeartbeats 400000 in
theorem bytes9_any (a : ByteArray) (i c : Int) (w : World) (ha : a.size ≤ maxLen) :
    Calls Try.prog 9 #[.string a, .int .i64 i, .int .u8 c] w fun e w' => e = .returned (.bool (decide (a.size ≤ 1048576))) ∧ w' = w := by
  unfold maxLen at ha
  by_cases h : a.size ≤ 1048576
  · go_enter Try.func9, Try.ntmps9
    go_wp2
    go_ret
    exact ⟨ret_bool (by simp; omega), rfl⟩
  · go_enter Try.func9, Try.ntmps9
    go_wp2
    all_goals
      go_ret
      exact ⟨ret_bool (by simp; omega), rfl⟩

end Go.Proofs.Qxb6628853a.Cod
