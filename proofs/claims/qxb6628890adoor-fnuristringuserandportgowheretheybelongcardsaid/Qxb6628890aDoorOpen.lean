/-
  The row's openings: the listed table gives 'TabIs'; a slice of pairs of strings gives 'AtL'.
-/
import Derived.Test.Qxb6628890aDoorText
import Derived.ProofKit
import Derived.LaidMore
import Derived.OpenShut
import Derived.ShutString
import Derived.Stop.Joined
import Derived.Stop.LaidErr
import Derived.MakeChecks
import Derived.Deep.SlicePairs
namespace Go.Proofs.Qxb6628890aDoor.Uri
open Go.RowKit Go.Proofs.Qxb6628890aDoor Go.ChangeShapes Go.WideShapes

theorem gTab : Tryd.prog.globalNamed tabName = some 0 := by kernel_rfl
theorem tTab : (Tryd.prog.globals[0]?).map (·.type) = some 58 := by kernel_rfl
theorem uTab : Tryd.prog.underlying 58 = some (.array 20 38) := by kernel_rfl
theorem c38 : Tryd.prog.cellsOf 38 = 1 := by kernel_rfl
theorem c58 : Tryd.prog.cellsOf 58 = 20 := by kernel_rfl

theorem of_laid {W : World} (h : laidMetH Tryd.prog Rows.fnURIStringCutsAtAnyParamRow.laid W) : Lib.TabIs Tryd.prog W tabName .u64 Lib.pow10Tab := by
  rw [MakeChecks.laidMetH_plain _ _ _ (by kernel_rfl)] at h
  have h2 := laidMet.tail (laidMet.tail h)
  have e : (tabName, (Lib.tabData .u64 Lib.pow10Tab : DataW Unit)) :: [] = [(tabName, Rows.laid_internal_strconv_uint64pow10)] := by kernel_rfl
  exact Lib.tabIs_of_head gTab tTab uTab Tryd.underlying38 c38 c58 (rest := []) (by rw [e]; exact h2)

theorem block_lt {w : World} {b o : Nat} {v : Value} (h : w.cell? ⟨b, o, none⟩ = some v) : b < w.heap.size := by
  rcases Nat.lt_or_ge b w.heap.size with h' | h'
  · exact h'
  · unfold World.cell? at h
    rw [Array.getElem?_eq_none h'] at h
    cases h

theorem pairs_of {H : Type} {enc : TypeId × Value → H} {w : World} {base : Nat} {spare : Nat → Bool} {held : Bool} {fuel : Nat} {a : Option Addr} {len cap : Nat} {x : DataW H × List MemPlace}
    (h : DataW.trod enc Tryd.prog w base spare held fuel 22 [.slice a len cap] = some x) :
    ∃ L : List (ByteArray × ByteArray), L.length = len ∧ L.length ≤ maxLen ∧ AtL w a L := by
  rcases Deep.open_slice_pairs (f0 := _) (f1 := _) Tryd.underlying22 Tryd.underlying32 (by kernel_rfl) rfl rfl (by kernel_rfl) (by kernel_rfl) h with ⟨hcs, _⟩ | ⟨a', len', cap', m, n, V0, V1, D0, D1, P0, P1, hcs, _, hl, hm, hmm, _, hx⟩
  · simp at hcs
    obtain ⟨rfl, rfl, rfl⟩ := hcs
    exact ⟨[], rfl, by simp [maxLen], Or.inl rfl⟩
  · simp at hcs
    obtain ⟨rfl, rfl, rfl⟩ := hcs
    have hlm : len ≤ m := by rw [hmm]; split <;> omega
    have each : ∀ i, i < len → ∃ q : ByteArray × ByteArray, w.cell? (a'.add (i * 2)) = some (.string q.1) ∧ w.cell? (a'.add (i * 2 + 1)) = some (.string q.2) := by
      intro i hi
      obtain ⟨e0, e1, t0, t1⟩ := hx i (by omega)
      obtain ⟨s0, h0, _, _⟩ := DataW.trod_string Tryd.underlying9 t0
      obtain ⟨s1, h1, _, _⟩ := DataW.trod_string Tryd.underlying9 t1
      simp at h0 h1
      rw [h0] at e0
      rw [h1] at e1
      exact ⟨(s0, s1), e0, e1⟩
    obtain ⟨q, hq⟩ := Deep.choose_lt each
    refine ⟨(List.range len).map q, by simp, by simp; omega, ?_⟩
    by_cases h0 : len = 0
    · left; simp [h0]
    · right
      obtain ⟨b, off, spot⟩ := a'
      have hc := (hq 0 (by omega)).1
      have hspot : spot = none := by simpa [Addr.add] using World.cell?_spot hc
      subst hspot
      refine ⟨b, off, rfl, ?_, fun i hi => ?_⟩
      · rw [Addr.add_lit] at hc
        exact block_lt hc
      · simp at hi
        have hc := hq i hi
        rw [Addr.add_lit, Addr.add_lit] at hc
        simp only [List.getElem_map, List.getElem_range]
        exact hc
end Go.Proofs.Qxb6628890aDoor.Uri
