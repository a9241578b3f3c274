/-
  zzParams: a fresh row that reads as the given one.
-/
import Derived.Test.Qxb6628890aDoorText
import Derived.Deep.QuietTactic
import Derived.BigQuiet
namespace Go.Proofs.Qxb6628890aDoor.Uri
open Go.RowKit Go.Proofs.Qxb6628890aDoor

theorem info36 : (Tryd.prog.info? 36).map (fun i => (i.size, i.bytes)) = some (2, 32) := by kernel_rfl
theorem zero36 : (Tryd.prog.info? 36).bind (fun i => i.zero) = some (.agg #[.string { data := #[] }, .string { data := #[] }]) := by kernel_rfl

theorem make36 (w : World) (n : Nat) (hn : n ≤ 1048576) : ∃ C : Array Value, C.size = n * 2 ∧ (Instr.makeSlice 26 (.int .i64 (n : Int)) (.int .i64 (n : Int))).run Tryd.prog w = .ok (.slice (some ⟨w.heap.size, 0, none⟩) n n) (w.alloc (.cells C 36)) := by
  obtain ⟨i, hi, e⟩ := Option.map_eq_some_iff.1 info36
  have hz := zero36
  rw [hi] at hz
  simp only [Option.bind_some] at hz
  simp only [Prod.mk.injEq] at e
  obtain ⟨e1, e2⟩ := e
  have h := run_make (P := Tryd.prog) w 26 36 i _ Tryd.underlying26 hi hz .i64 .i64 (n : Int) (n : Int) (by omega) (Int.le_refl _) (by rw [e2]; omega) (by omega)
  refine ⟨madeCells (Value.agg #[Value.string { data := #[] }, Value.string { data := #[] }]).cells (n * 2), size_madeCells _ _, ?_⟩
  rw [h, e1]
  simp only [Int.toNat_natCast]

theorem store2 (w : World) (C : Array Value) (m p q : Nat) (a b : Value) :
    (((w.alloc (.cells C 36)).drewN m).setCell ⟨w.heap.size, p, none⟩ a).setCell ⟨w.heap.size, q, none⟩ b = (w.alloc (.cells ((C.setIfInBounds p a).setIfInBounds q b) 36)).drewN m := by
  show (((w.alloc (.cells C 36)).setCell ⟨w.heap.size, p, none⟩ a).setCell ⟨w.heap.size, q, none⟩ b).drewN m = _
  rw [World.setCell_alloc_at _ _ _ _ _ rfl, World.setCell_alloc_at _ _ _ _ _ rfl]

theorem set2_same (C : Array Value) (i : Nat) (a b : Value) (h : i * 2 + 1 < C.size) :
    ((C.setIfInBounds (i * 2) a).setIfInBounds (i * 2 + 1) b)[i * 2]? = some a ∧ ((C.setIfInBounds (i * 2) a).setIfInBounds (i * 2 + 1) b)[i * 2 + 1]? = some b := by
  constructor
  · rw [Array.getElem?_setIfInBounds, if_neg (by omega), Array.getElem?_setIfInBounds, if_pos rfl, if_pos (by omega)]
  · rw [Array.getElem?_setIfInBounds, if_pos rfl, if_pos (by simpa using h)]

theorem set2_other (C : Array Value) (i j : Nat) (a b : Value) (h : ¬ j = i) :
    ((C.setIfInBounds (i * 2) a).setIfInBounds (i * 2 + 1) b)[j * 2]? = C[j * 2]? ∧ ((C.setIfInBounds (i * 2) a).setIfInBounds (i * 2 + 1) b)[j * 2 + 1]? = C[j * 2 + 1]? := by
  constructor
  · rw [Array.getElem?_setIfInBounds, if_neg (by omega), Array.getElem?_setIfInBounds, if_neg (by omega)]
  · rw [Array.getElem?_setIfInBounds, if_neg (by omega), Array.getElem?_setIfInBounds, if_neg (by omega)]

set_option maxHeartbeats 1000000 in
theorem params_in (L : List (ByteArray × ByteArray)) (blk o cap : Nat) (w : World) (hlt : blk < w.heap.size) (hL : L.length ≤ 1048576) (hc : Pairs w blk o L) :
    Calls Tryd.prog 7 #[.slice (some ⟨blk, o, none⟩) L.length cap] w fun e w' => e = .returned (.slice (some ⟨w.heap.size, 0, none⟩) L.length L.length) ∧ Pairs w' w.heap.size 0 L ∧ w.heap.size < w'.heap.size ∧ Below w.heap.size w w' := by
  obtain ⟨C0, hC0, hmk⟩ := make36 w L.length hL
  have hnil := Lib.run_eql_slice_nil (P := Tryd.prog) w 22 32 (some ⟨blk, o, none⟩) L.length cap 0 0 Tryd.underlying22
  have HC : Hid (Pairs w blk o L) := hc
  clear hc
  have HC0 : Hid (C0.size = L.length * 2) := hC0
  clear hC0
  go_enter Tryd.func7, Tryd.ntmps7
  go_wp2
  go_loopw [4] (fun k wr => ∃ (i n : Nat) (C : Array Value), k = .int .i64 i ∧ i ≤ L.length ∧ wr = (w.alloc (.cells C 36)).drewN n ∧ C.size = L.length * 2 ∧ ∀ j (h : j < L.length), j < i → C[j * 2]? = some (.string L[j].1) ∧ C[j * 2 + 1]? = some (.string L[j].2)) (fun k _ => L.length - (intOf k).toNat)
  case atStart => exact ⟨0, 0, C0, rfl, by omega, rfl, HC0.out, fun j _ h => by omega⟩
  case round =>
    obtain ⟨i, n, C, rfl, hi, rfl, hCs, hC⟩ := hrel
    have HCs : Hid (C.size = L.length * 2) := hCs
    have HCC : Hid (∀ j (h : j < L.length), j < i → C[j * 2]? = some (.string L[j].1) ∧ C[j * 2 + 1]? = some (.string L[j].2)) := hC
    clear hCs hC
    by_cases hl : i < L.length
    · obtain ⟨g0, g1⟩ := HC.out i hl
      obtain ⟨nm, vl, hpr⟩ : ∃ nm vl, L[i] = (nm, vl) := ⟨L[i].1, L[i].2, rfl⟩
      rw [hpr] at g0 g1
      simp only at g0 g1
      have Hpr : Hid (L[i] = (nm, vl)) := hpr
      clear hpr
      have q0 : i * 2 < C.size := by rw [HCs.out]; omega
      have q1 : i * 2 + 1 < C.size := by rw [HCs.out]; omega
      have gi : (i : Int) < (L.length : Int) := by omega
      go_wp2
      go_region
      go_wp2
      refine ⟨⟨i + 1, n + 1, (C.setIfInBounds (i * 2) (.string nm)).setIfInBounds (i * 2 + 1) (.string vl), by go_num, by omega, store2 _ _ _ _ _ _ _, by simp [HCs.out], fun j h hj => ?_⟩, by simp [intOf]; omega⟩
      by_cases e : j = i
      · subst e
        rw [Hpr.out]
        exact set2_same C j (.string nm) (.string vl) q1
      · rw [(set2_other C i j (.string nm) (.string vl) e).1, (set2_other C i j (.string nm) (.string vl) e).2]
        exact HCC.out j h (by omega)
    · go_wp2
      go_ret
      refine ⟨rfl, fun j h => ?_, by simp, below_drewN ((Below.refl _ _).alloc (Nat.le_refl _) _) n⟩
      have hj := HCC.out j h (by omega)
      rw [Nat.zero_add]
      exact ⟨(World.cell?_alloc_mark w C 36 (0, 0) _).trans hj.1, (World.cell?_alloc_mark w C 36 (0, 0) _).trans hj.2⟩
set_option maxHeartbeats 400000 in
theorem params_nil (cap : Nat) (w : World) :
    Calls Tryd.prog 7 #[.slice none 0 cap] w fun e w' => e = .returned (.slice none 0 0) ∧ w' = w := by
  have hnil := Lib.run_eql_slice_nil (P := Tryd.prog) w 22 32 none 0 cap 0 0 Tryd.underlying22
  go_enter Tryd.func7, Tryd.ntmps7
  go_wp2
  go_ret
  exact ⟨rfl, rfl⟩

set_option maxHeartbeats 400000 in
theorem params_empty (a : Addr) (cap : Nat) (w : World) :
    Calls Tryd.prog 7 #[.slice (some a) 0 cap] w fun e w' => e = .returned (.slice (some ⟨w.heap.size, 0, none⟩) 0 0) ∧ w.heap.size < w'.heap.size ∧ Below w.heap.size w w' := by
  obtain ⟨C0, _, hmk⟩ := make36 w 0 (by omega)
  rw [show ((0 : Nat) : Int) = 0 from rfl] at hmk
  have hnil := Lib.run_eql_slice_nil (P := Tryd.prog) w 22 32 (some a) 0 cap 0 0 Tryd.underlying22
  go_enter Tryd.func7, Tryd.ntmps7
  go_wp2
  refine wp_loop_rounds 1 ?_
  rw [rounds_succ]
  go_wp2
  go_ret
  exact ⟨rfl, by simp, (Below.refl _ _).alloc (Nat.le_refl _) _⟩

/-- what zzParams hands back: nil, or a whole new row that reads as L -/
def Made (w : World) (v : Value) (L : List (ByteArray × ByteArray)) : Prop :=
  (v = .slice none 0 0 ∧ L = []) ∨ ∃ b, v = .slice (some ⟨b, 0, none⟩) L.length L.length ∧ b < w.heap.size ∧ Pairs w b 0 L

theorem params_any (L : List (ByteArray × ByteArray)) (a : Option Addr) (cap : Nat) (w : World) (hL : L.length ≤ 1048576) (h : AtL w a L) :
    Calls Tryd.prog 7 #[.slice a L.length cap] w fun e w' => ∃ v, e = .returned v ∧ Made w' v L ∧ Below w.heap.size w w' := by
  rcases h with rfl | ⟨blk, o, rfl, hlt, hp⟩
  · cases a with
    | none =>
      refine (params_nil cap w).mono ?_
      rintro e w' ⟨rfl, rfl⟩
      exact ⟨_, rfl, Or.inl ⟨rfl, rfl⟩, Below.refl _ _⟩
    | some a =>
      refine (params_empty a cap w).mono ?_
      rintro e w' ⟨rfl, hz, hb⟩
      exact ⟨_, rfl, Or.inr ⟨_, rfl, hz, fun i h => by simp at h⟩, hb⟩
  · refine (params_in L blk o cap w hlt hL hp).mono ?_
    rintro e w' ⟨rfl, hq, hz, hb⟩
    exact ⟨_, rfl, Or.inr ⟨_, rfl, hz, hq⟩, hb⟩

end Go.Proofs.Qxb6628890aDoor.Uri
