/-
  zzItoa: the decimal numeral.
-/
import Derived.Test.Qxb6628890aDoorText
namespace Go.Proofs.Qxb6628890aDoor.Uri
open Go.RowKit Go.Proofs.Qxb6628890aDoor

/-- the digits still to come -/
def decTo (u : Nat) : List UInt8 := if u = 0 then [] else Lib.decDigits u

theorem decTo_step (u : Nat) (h : 0 < u) : decTo u = decTo (u / 10) ++ [UInt8.ofNat (48 + u % 10)] := by
  unfold decTo
  rw [if_neg (by omega)]
  by_cases h10 : u < 10
  · rw [if_pos (by omega), Lib.decDigits_one h10, Nat.mod_eq_of_lt h10]; rfl
  · rw [if_neg (by omega), Lib.decDigits, dif_neg h10]

theorem decTo_len (u : Nat) (h : u < 18446744073709551616) : (decTo u).length ≤ 20 := by
  unfold decTo
  split
  · simp
  · rw [Lib.decDigits_length]; exact Lib.nDigits_le20 u h

theorem decTo_pos (u : Nat) (h : 0 < u) : 0 < (decTo u).length := by
  rw [decTo_step u h]; simp

/-- the bytes l lie in C from i on -/
def LiesAt (C : Array Value) (i : Nat) (l : List UInt8) : Prop := ∀ t (h : t < l.length), C[i + t]? = some (.int .u8 (l[t].toNat : Int))

theorem lies_put {C : Array Value} {j : Nat} {l : List UInt8} (h : LiesAt C (j + 1) l) (c : UInt8) (hj : j < C.size) : LiesAt (C.setIfInBounds j (.int .u8 (c.toNat : Int))) j (c :: l) := by
  intro t ht
  cases t with
  | zero => simp [hj]
  | succ t =>
    have := h t (by simpa using ht)
    rw [Array.getElem?_setIfInBounds, if_neg (by omega)]
    rw [show j + (t + 1) = j + 1 + t by omega, this]
    rfl

theorem back_at (w : World) (C : Array Value) (i : Nat) (l : List UInt8) (h : LiesAt C i l) (cap : Nat) (n : Nat) (hn : l.length = n) :
    (convert 40 9 (.slice (some ⟨w.heap.size, i, none⟩) n cap)).run Tryd.prog (w.alloc (.cells C 39)) = .ok (.string ⟨l.toArray⟩) (w.alloc (.cells C 39)) := by
  subst hn
  refine run_convert_bytes_back (P := Tryd.prog) _ 40 9 5 ⟨w.heap.size, i, none⟩ cap l Tryd.underlying40 Tryd.underlying5 Tryd.underlying9 (fun j hj => ?_)
  rw [Addr.add_lit, World.cell?_alloc_mark]
  exact h j hj

theorem len39 : Tryd.prog.arrayLen 39 = 24 := by kernel_rfl
theorem size39 (w : World) : (Go.sizeOf (Tryd.prog.elem 39)).run Tryd.prog w = .ok 1 w := by kernel_rfl
theorem under39 : Tryd.prog.underlying 39 = some (.array (Tryd.prog.arrayLen 39) (Tryd.prog.elem 39)) := by kernel_rfl

theorem cut39 (b i : Nat) (hi : i < 24) (wx : World) :
    (Instr.sliceAt 39 (.pointer (some ⟨b, 0, none⟩)) (some (.int .i64 (i : Int))) none none).run Tryd.prog wx = .ok (.slice (some ⟨b, i, none⟩) (24 - i) (24 - i)) wx := by
  rw [run_sliceAt_array_l (P := Tryd.prog) wx 39 ⟨b, 0, none⟩ under39 .i64 (i : Int) (by omega) (by rw [len39]; omega), size39, len39]
  simp only [Result.andThen, slicedAt, Int.toNat_natCast]
  rw [if_neg (by omega), Addr.add_lit]
  simp

set_option maxHeartbeats 1000000 in
theorem zitoa_pos (u : Nat) (w : World) (h0 : 0 < u) (h1 : u ≤ 9223372036854775807) :
    Calls Tryd.prog 12 #[.int .i64 (u : Int)] w fun e w' => ∃ r : ByteArray, e = .returned (.string r) ∧ Hid (r.data.toList = decTo u) ∧ r.size ≤ 21 ∧ Below w.heap.size w w' := by
  have d0 : decide ((u : Int) < 0) = false := by simp
  have d1 : ((u : Int) == 0) = false := beq_eq_false_iff_ne.2 (by omega)
  have hlen := decTo_len u (by omega)
  have hpos := decTo_pos u h0
  obtain ⟨T, HT⟩ : ∃ T, Hid (decTo u = T) := ⟨_, rfl⟩
  rw [HT.out] at hlen hpos
  go_enter Tryd.func12, Tryd.ntmps12
  go_wp2
  go_loopw [4, 6] (fun v k wr => ∃ (u' i : Nat) (tl : List UInt8) (C : Array Value), v = .int .u64 u' ∧ u' ≤ u ∧ k = .int .i64 i ∧ i + tl.length = 24 ∧ wr = w.alloc (.cells C 39) ∧ C.size = 24 ∧ decTo u' ++ tl = T ∧ LiesAt C i tl) (fun v _ _ => (intOf v).toNat)
  case atStart => exact ⟨u, 24, [], _, rfl, Nat.le_refl _, rfl, rfl, rfl, rfl, by simp [HT.out], fun t h => by simp at h⟩
  case round =>
    obtain ⟨u', i, tl, C, rfl, hu, rfl, hi, rfl, hCs, hT, hl⟩ := hrel
    have hcnt : (decTo u').length + tl.length ≤ 20 := by rw [← List.length_append, hT]; exact hlen
    have HL : Hid (LiesAt C i tl) := hl
    have HTT : Hid (decTo u' ++ tl = T) := hT
    clear hl hT
    by_cases hu0 : 0 < u'
    · have hp := decTo_pos u' hu0
      obtain ⟨j, rfl⟩ : ∃ j, i = j + 1 := ⟨i - 1, by omega⟩
      have hj : j < 24 := by omega
      have hjC : j < C.size := by omega
      have hu1 : (u' : Int) ≤ 9223372036854775808 := by omega
      have hb : ((UInt8.ofNat (48 + u' % 10)).toNat : Int) = 48 + (u' : Int) % 10 := by
        rw [UInt8.toNat_ofNat']; omega
      have HN : Hid (LiesAt (C.setIfInBounds j (.int .u8 (48 + (u' : Int) % 10))) j (UInt8.ofNat (48 + u' % 10) :: tl)) := by
        have := lies_put HL.out (UInt8.ofNat (48 + u' % 10)) hjC
        rw [hb] at this
        exact this
      clear hb
      go_wp2
      refine ⟨⟨u' / 10, j, UInt8.ofNat (48 + u' % 10) :: tl, _, by go_num, by omega, rfl, by simp; omega, rfl, by simp [hCs], ?_, HN.out⟩, by simp [intOf]; omega⟩
      rw [← HTT.out, decTo_step u' hu0, List.append_assoc]; rfl
    · obtain rfl : u' = 0 := by omega
      have htl : tl = T := by have := HTT.out; simpa [decTo] using this
      subst htl
      have hbk := back_at w C i tl HL.out (24 - i) (24 - i) (by omega)
      have hsl := cut39 w.heap.size i (by omega)
      have hz : tl.length ≤ 21 := by omega
      clear hcnt HL HTT
      go_wp2
      go_ret
      exact ⟨_, rfl, HT.out.symm, by simpa [ByteArray.size] using hz, (Below.refl _ _).alloc (Nat.le_refl _) _⟩

set_option maxHeartbeats 1000000 in
theorem zitoa_neg (v : Nat) (w : World) (h1 : v ≤ 9223372036854775807) :
    Calls Tryd.prog 12 #[.int .i64 (-((v : Int) + 1))] w fun e w' => ∃ r : ByteArray, e = .returned (.string r) ∧ Hid (r.data.toList = 45 :: decTo (v + 1)) ∧ r.size ≤ 21 ∧ Below w.heap.size w w' := by
  obtain ⟨n, hn⟩ : ∃ n : Int, n = -((v : Int) + 1) := ⟨_, rfl⟩
  rw [← hn]
  have HN : Hid (n = -((v : Int) + 1)) := hn
  have h2 : n < 0 := by omega
  have h3 : -9223372036854775808 ≤ n := by omega
  clear hn
  have d1 : (-(n + 1) + 1 == 0) = false := beq_eq_false_iff_ne.2 (by omega)
  have hlen := decTo_len (v + 1) (by omega)
  have hpos := decTo_pos (v + 1) (by omega)
  obtain ⟨T, HT⟩ : ∃ T, Hid (decTo (v + 1) = T) := ⟨_, rfl⟩
  rw [HT.out] at hlen hpos
  go_enter Tryd.func12, Tryd.ntmps12
  go_wp2
  go_loopw [4, 6] (fun x k wr => ∃ (u' i : Nat) (tl : List UInt8) (C : Array Value), x = .int .u64 u' ∧ u' ≤ v + 1 ∧ k = .int .i64 i ∧ i + tl.length = 24 ∧ wr = w.alloc (.cells C 39) ∧ C.size = 24 ∧ decTo u' ++ tl = T ∧ LiesAt C i tl) (fun x _ _ => (intOf x).toNat)
  case atStart => exact ⟨v + 1, 24, [], _, congrArg (Value.int .u64) (by have := HN.out; omega), Nat.le_refl _, rfl, rfl, rfl, rfl, by simp [HT.out], fun t h => by simp at h⟩
  case round =>
    obtain ⟨u', i, tl, C, rfl, hu, rfl, hi, rfl, hCs, hT, hl⟩ := hrel
    have hcnt : (decTo u').length + tl.length ≤ 20 := by rw [← List.length_append, hT]; exact hlen
    have HL : Hid (LiesAt C i tl) := hl
    have HTT : Hid (decTo u' ++ tl = T) := hT
    clear hl hT
    by_cases hu0 : 0 < u'
    · have hp := decTo_pos u' hu0
      obtain ⟨j, rfl⟩ : ∃ j, i = j + 1 := ⟨i - 1, by omega⟩
      have hj : j < 24 := by omega
      have hjC : j < C.size := by omega
      have hu1 : (u' : Int) ≤ 9223372036854775808 := by omega
      have hb : ((UInt8.ofNat (48 + u' % 10)).toNat : Int) = 48 + (u' : Int) % 10 := by
        rw [UInt8.toNat_ofNat']; omega
      have HN : Hid (LiesAt (C.setIfInBounds j (.int .u8 (48 + (u' : Int) % 10))) j (UInt8.ofNat (48 + u' % 10) :: tl)) := by
        have := lies_put HL.out (UInt8.ofNat (48 + u' % 10)) hjC
        rw [hb] at this
        exact this
      clear hb
      go_wp2
      refine ⟨⟨u' / 10, j, UInt8.ofNat (48 + u' % 10) :: tl, _, by go_num, by omega, rfl, by simp; omega, rfl, by simp [hCs], ?_, HN.out⟩, by simp [intOf]; omega⟩
      rw [← HTT.out, decTo_step u' hu0, List.append_assoc]; rfl
    · obtain rfl : u' = 0 := by omega
      have htl : tl = T := by have := HTT.out; simpa [decTo] using this
      subst htl
      obtain ⟨j, rfl⟩ : ∃ j, i = j + 1 := ⟨i - 1, by omega⟩
      have hjC : j < C.size := by omega
      have HP := lies_put HL.out 45 hjC
      have hbk := back_at w _ j (45 :: tl) HP (24 - j) (24 - j) (by simp; omega)
      rw [show (((45 : UInt8).toNat : Nat) : Int) = 45 from rfl] at hbk
      have hsl := cut39 w.heap.size j (by omega)
      have hj2 : j < 24 := by omega
      have hz : tl.length + 1 ≤ 21 := by omega
      clear hcnt HL HTT HP
      go_wp2
      go_ret
      exact ⟨_, rfl, by show _ = _; rw [HT.out], by simpa [ByteArray.size] using hz, (Below.refl _ _).alloc (Nat.le_refl _) _⟩

theorem decTo_itoa_pos (u : Nat) (h : 0 < u) : decTo u = Lib.itoa (u : Int) := by
  rw [Lib.itoa_nonneg]; unfold decTo; rw [if_neg (by omega)]

theorem decTo_itoa_neg (v : Nat) : 45 :: decTo (v + 1) = Lib.itoa (-((v : Int) + 1)) := by
  rw [show -((v : Int) + 1) = -((v + 1 : Nat) : Int) by omega, Lib.itoa_neg (v + 1) (by omega)]
  unfold decTo; rw [if_neg (by omega)]

/-- zzItoa at every int but 0 -/
theorem zitoa_any (n : Int) (w : World) (h : n ≠ 0) (h0 : -9223372036854775808 ≤ n) (h1 : n ≤ 9223372036854775807) :
    Calls Tryd.prog 12 #[.int .i64 n] w fun e w' => ∃ r : ByteArray, e = .returned (.string r) ∧ Hid (r.data.toList = Lib.itoa n) ∧ r.size ≤ 21 ∧ Below w.heap.size w w' := by
  by_cases hn : 0 < n
  · obtain ⟨u, rfl⟩ := Int.eq_ofNat_of_zero_le (show 0 ≤ n by omega)
    rw [← decTo_itoa_pos u (by omega)]
    exact zitoa_pos u w (by omega) (by omega)
  · obtain ⟨v, rfl⟩ : ∃ v : Nat, n = -((v : Int) + 1) := ⟨(-n - 1).toNat, by omega⟩
    rw [← decTo_itoa_neg v]
    exact zitoa_neg v w (by omega)

end Go.Proofs.Qxb6628890aDoor.Uri
