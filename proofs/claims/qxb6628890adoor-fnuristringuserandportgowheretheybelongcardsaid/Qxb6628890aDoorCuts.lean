/-
  What the cut of the made row reads as; URI.String at a slice of a known length.
-/
import Derived.Test.Qxb6628890aDoorMade
import Derived.Test.Qxb6628890aDoorWithin
import Derived.Test.Qxb6628890aDoorGuards
namespace Go.Proofs.Qxb6628890aDoor.Uri
open Go.RowKit Go.Proofs.Qxb6628890aDoor

theorem size36 (w : World) : (Go.sizeOf (Tryd.prog.elem 26)).run Tryd.prog w = .ok 2 w := by kernel_rfl

/-- the two halves of a slice, cut at k -/
def Cuts (w : World) (a : Option Addr) (c : Nat) (L : List (ByteArray × ByteArray)) (k : Nat) : Prop :=
  ∃ a1 c1 a2 c2, (∀ wx, (Instr.slice 26 (.slice a L.length c) none (some (.int .i64 (k : Int))) none).run Tryd.prog wx = .ok (.slice a1 k c1) wx) ∧
    (∀ wx, (Instr.slice 26 (.slice a L.length c) (some (.int .i64 (k : Int))) none none).run Tryd.prog wx = .ok (.slice a2 (L.length - k) c2) wx) ∧
    AtL w a1 (L.take k) ∧ AtL w a2 (L.drop k)

theorem Pairs.take {w : World} {b o : Nat} {L : List (ByteArray × ByteArray)} (h : Pairs w b o L) (k : Nat) : Pairs w b o (L.take k) := fun i hi => by
  have hi' : i < L.length := by simp at hi; omega
  have := h i hi'
  rw [List.getElem_take]
  exact this

theorem Pairs.drop {w : World} {b o : Nat} {L : List (ByteArray × ByteArray)} (h : Pairs w b o L) (k : Nat) : Pairs w b (o + k * 2) (L.drop k) := fun i hi => by
  have hi' : k + i < L.length := by simp at hi; omega
  have := h (k + i) hi'
  rw [List.getElem_drop]
  rw [show o + k * 2 + i * 2 = o + (k + i) * 2 by omega]
  exact this

theorem under26 : Tryd.prog.underlying 26 = some (.slice (Tryd.prog.elem 26)) := by kernel_rfl

theorem cut_h (a : Option Addr) (n c k : Nat) (hk : k ≤ c) (wx : World) :
    (Instr.slice 26 (.slice a n c) none (some (.int .i64 (k : Int))) none).run Tryd.prog wx = .ok (.slice (if c = 0 then a else a.map (·.add (0 * 2))) k c) wx := by
  rw [run_slice_h (P := Tryd.prog) wx 26 a n c under26 .i64 (k : Int) (by omega) (by omega), size36]
  simp [Result.andThen, sliced]

theorem cut_l (a : Option Addr) (n c k : Nat) (hk : k ≤ n) (wx : World) :
    (Instr.slice 26 (.slice a n c) (some (.int .i64 (k : Int))) none none).run Tryd.prog wx = .ok (.slice (if c = k then a else a.map (·.add (k * 2))) (n - k) (c - k)) wx := by
  rw [run_slice_l (P := Tryd.prog) wx 26 a n c under26 .i64 (k : Int) (by omega) (by omega), size36]
  simp [Result.andThen, sliced]

theorem made_cuts {w : World} {v : Value} {L : List (ByteArray × ByteArray)} (h : Made w v L) : ∃ a c, v = .slice a L.length c ∧ AtL w a L ∧ ∀ k, k ≤ L.length → Cuts w a c L k := by
  rcases h with ⟨rfl, rfl⟩ | ⟨b, rfl, hb, hp⟩
  · refine ⟨none, 0, rfl, Or.inl rfl, fun k hk => ?_⟩
    exact ⟨_, _, _, _, cut_h none 0 0 k hk, cut_l none 0 0 k hk, Or.inl (by simp), Or.inl (by simp)⟩
  · refine ⟨some ⟨b, 0, none⟩, L.length, rfl, Or.inr ⟨b, 0, rfl, hb, hp⟩, fun k hk => ?_⟩
    refine ⟨_, _, _, _, cut_h _ L.length L.length k hk, cut_l _ L.length L.length k hk, ?_, ?_⟩
    · by_cases h0 : L.length = 0
      · left; simp [List.eq_nil_of_length_eq_zero h0]
      · right
        exact ⟨b, 0, by rw [if_neg h0]; rfl, hb, hp.take k⟩
    · by_cases h0 : L.length = k
      · left; rw [List.drop_eq_nil_iff]; omega
      · right
        exact ⟨b, 0 + k * 2, by rw [if_neg h0, Option.map_some, Addr.add_lit], hb, hp.drop k⟩

/-- URI.String at a slice whose length is told apart -/
theorem uri_at (sc us ho he : ByteArray) (n : Int) (L : List (ByteArray × ByteArray)) (a : Option Addr) (len cap : Nat) (w : World) (hlen : L.length = len) (h0 : -9223372036854775808 ≤ n) (h1 : n ≤ 9223372036854775807)
    (hS : sc.size + us.size + ho.size + he.size ≤ 1048576) (hT : tot L ≤ 1048576)
    (htab : Lib.TabIs Tryd.prog w tabName .u64 Lib.pow10Tab) (h : AtL w a L) :
    Calls Tryd.prog 8 #[.agg #[.string sc, .string us, .string ho, .int .i64 n, .slice a len cap, .string he]] w fun e w' => ∃ r : ByteArray, e = .returned (.string r) ∧ Hid (r.data.toList = utext6 sc us ho (ptx n) L he) ∧ Below w.heap.size w w' := by
  subst hlen
  exact uri_any sc us ho he n L a cap w h0 h1 hS hT htab h

end Go.Proofs.Qxb6628890aDoor.Uri
