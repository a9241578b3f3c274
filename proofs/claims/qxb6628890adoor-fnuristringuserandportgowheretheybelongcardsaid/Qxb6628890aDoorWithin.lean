/-
  zzWithin: where she says true, the lengths sum to at most 1<<20. zzHasPrefix, zzHasSuffix: where they answer true.
-/
import Derived.Test.Qxb6628890aDoorText
import Derived.Deep.QuietTactic
import Derived.BigQuiet
namespace Go.Proofs.Qxb6628890aDoor.Uri
open Go.RowKit Go.Proofs.Qxb6628890aDoor

/-- it returned one bool; where that is true, N is at most 1<<20 -/
def Within (N : Nat) (e : Ending) : Prop := ∃ b : Bool, e = .returned (.bool b) ∧ (b = true → N ≤ 1048576)
theorem within_no (N : Nat) : Within N (.returned (.bool false)) := ⟨false, rfl, by intro h; cases h⟩
theorem within_yes {N : Nat} (h : N ≤ 1048576) : Within N (.returned (.bool true)) := ⟨true, rfl, fun _ => h⟩

set_option maxHeartbeats 1000000 in
theorem within_in (sc us ho he : ByteArray) (L : List (ByteArray × ByteArray)) (blk o cap : Nat) (w : World) (h1 : sc.size ≤ maxLen) (h2 : us.size ≤ maxLen) (h3 : ho.size ≤ maxLen) (h4 : he.size ≤ maxLen) (h5 : L.length ≤ maxLen)
    (hc : Pairs w blk o L) :
    Calls Tryd.prog 6 #[.string sc, .string us, .string ho, .string he, .slice (some ⟨blk, o, none⟩) L.length cap] w fun e w' => Within (sc.size + us.size + ho.size + he.size + tot L) e ∧ ∃ n, w' = w.drewN n := by
  unfold maxLen at h1 h2 h3 h4 h5
  have HC : Hid (Pairs w blk o L) := hc
  clear hc
  by_cases hg : sc.size + us.size + ho.size + he.size ≤ 1048576
  · have e1 : decide (1048576 < (sc.size : Int)) = false := by simp; omega
    have e2 : decide (1048576 < (us.size : Int)) = false := by simp; omega
    have e3 : decide (1048576 < (ho.size : Int)) = false := by simp; omega
    have e4 : decide (1048576 < (he.size : Int)) = false := by simp; omega
    go_enter Tryd.func6, Tryd.ntmps6
    go_wp2
    go_loopw [11, 12] (fun z k w' => ∃ i z0 n : Nat, k = .int .i64 i ∧ i ≤ L.length ∧ z = .int .i64 z0 ∧ z0 ≤ 1048576 ∧ sc.size + us.size + ho.size + he.size + tot (L.take i) = z0 ∧ w' = w.drewN n) (fun _ k _ => L.length - (intOf k).toNat)
    case atStart => exact ⟨0, sc.size + us.size + ho.size + he.size, 0, rfl, by omega, by go_num, hg, by simp [tot], rfl⟩
    case round =>
      obtain ⟨i, z0, n, rfl, hi, rfl, hz, hsum, rfl⟩ := hrel
      have HS : Hid (sc.size + us.size + ho.size + he.size + tot (L.take i) = z0) := hsum
      clear hsum
      by_cases hlt : i < L.length
      · obtain ⟨g0, g1⟩ := HC.out i hlt
        have HT : Hid (tot (L.take (i + 1)) = tot (L.take i) + (32 + L[i].1.size + L[i].2.size)) := tot_take_succ L i hlt
        generalize L[i].1 = nm at *
        generalize L[i].2 = vl at *
        by_cases hn : nm.size ≤ 1048576
        · have d1 : decide (1048576 < (nm.size : Int)) = false := by simp; omega
          by_cases hv : vl.size ≤ 1048576
          · have d2 : decide (1048576 < (vl.size : Int)) = false := by simp; omega
            go_wp2
            go_quiet (fail)
            go_wp2
            · go_ret
              exact ⟨within_no _, _, rfl⟩
            · refine ⟨⟨i + 1, z0 + (32 + nm.size + vl.size), n + nq, by go_num, by omega, by go_num, by omega, ?_, rfl⟩, by simp [intOf]; omega⟩
              rw [HT.out, ← HS.out]; omega
          · go_wp2
            go_ret
            exact ⟨within_no _, _, rfl⟩
        · go_wp2
          go_ret
          exact ⟨within_no _, _, rfl⟩
      · have HF : Hid (sc.size + us.size + ho.size + he.size + tot L ≤ 1048576) := by
          show _ ≤ _
          have e := HS.out
          rw [List.take_of_length_le (by omega)] at e
          omega
        go_wp2
        go_ret
        exact ⟨within_yes HF.out, _, rfl⟩
  · go_enter Tryd.func6, Tryd.ntmps6
    go_wp2
    all_goals
      go_ret
      exact ⟨within_no _, 0, rfl⟩

set_option maxHeartbeats 1000000 in
theorem within_nil (sc us ho he : ByteArray) (a : Option Addr) (cap : Nat) (w : World) (h1 : sc.size ≤ maxLen) (h2 : us.size ≤ maxLen) (h3 : ho.size ≤ maxLen) (h4 : he.size ≤ maxLen) :
    Calls Tryd.prog 6 #[.string sc, .string us, .string ho, .string he, .slice a 0 cap] w fun e w' => Within (sc.size + us.size + ho.size + he.size + tot []) e ∧ ∃ n, w' = w.drewN n := by
  unfold maxLen at h1 h2 h3 h4
  by_cases hg : sc.size + us.size + ho.size + he.size ≤ 1048576
  · have e1 : decide (1048576 < (sc.size : Int)) = false := by simp; omega
    have e2 : decide (1048576 < (us.size : Int)) = false := by simp; omega
    have e3 : decide (1048576 < (ho.size : Int)) = false := by simp; omega
    have e4 : decide (1048576 < (he.size : Int)) = false := by simp; omega
    go_enter Tryd.func6, Tryd.ntmps6
    go_wp2
    refine wp_loop_rounds 1 ?_
    rw [rounds_succ]
    go_wp2
    go_ret
    exact ⟨within_yes hg, 0, rfl⟩
  · go_enter Tryd.func6, Tryd.ntmps6
    go_wp2
    all_goals
      go_ret
      exact ⟨within_no _, 0, rfl⟩

theorem within_any (sc us ho he : ByteArray) (L : List (ByteArray × ByteArray)) (a : Option Addr) (cap : Nat) (w : World) (h1 : sc.size ≤ maxLen) (h2 : us.size ≤ maxLen) (h3 : ho.size ≤ maxLen) (h4 : he.size ≤ maxLen) (h5 : L.length ≤ maxLen)
    (h : AtL w a L) :
    Calls Tryd.prog 6 #[.string sc, .string us, .string ho, .string he, .slice a L.length cap] w fun e w' => Within (sc.size + us.size + ho.size + he.size + tot L) e ∧ ∃ n, w' = w.drewN n := by
  rcases h with rfl | ⟨blk, o, rfl, _, hp⟩
  · exact within_nil sc us ho he a cap w h1 h2 h3 h4
  · exact within_in sc us ho he L blk o cap w h1 h2 h3 h4 h5 hp
set_option maxHeartbeats 400000 in
theorem hasPrefix_yes (s p : ByteArray) (w : World) (hs : s.size ≤ maxLen) (hps : p.size ≤ s.size) (heq : ∀ i (h : i < p.size), s[i]'(by omega) = p[i]) :
    Calls Tryd.prog 9 #[.string s, .string p] w fun e w' => e = .returned (.bool true) ∧ ∃ n, w' = w.drewN n := by
  unfold maxLen at hs
  have HE : Hid (∀ i (h : i < p.size), s[i]'(by omega) = p[i]) := heq
  clear heq
  go_enter Tryd.func9, Tryd.ntmps9
  go_wp2
  go_loopw [5] (fun k w' => ∃ i n : Nat, k = .int .i64 i ∧ i ≤ p.size ∧ w' = w.drewN n) (fun k _ => p.size - (intOf k).toNat)
  case atStart => exact ⟨0, 0, rfl, by omega, rfl⟩
  case round =>
    obtain ⟨i, n, rfl, hi, rfl⟩ := hrel
    by_cases hlt : i < p.size
    · have hlt2 : i < s.size := by omega
      have he := HE.out i hlt
      have g1 : (i : Int) < (p.size : Int) := by omega
      have g2 : (i : Int) < (s.size : Int) := by omega
      have g3 : ((s[i].toNat : Int) != (p[i].toNat : Int)) = false := by rw [he]; simp
      clear he
      go_wp2
      go_quiet (fail)
      go_wp2
      exact ⟨⟨i + 1, n + nq, by go_num, by omega, rfl⟩, by simp [intOf]; omega⟩
    · go_wp2
      go_ret
      exact ⟨rfl, n, rfl⟩

set_option maxHeartbeats 400000 in
theorem hasSuffix_yes (s p : ByteArray) (w : World) (hs : s.size ≤ maxLen) (hps : p.size ≤ s.size) (heq : ∀ i (h : i < p.size), s[s.size - p.size + i]'(by omega) = p[i]) :
    Calls Tryd.prog 10 #[.string s, .string p] w fun e w' => e = .returned (.bool true) ∧ ∃ n, w' = w.drewN n := by
  unfold maxLen at hs
  obtain ⟨d, Hd⟩ : ∃ d, Hid (s.size - p.size = d) := ⟨_, rfl⟩
  have hd : d + p.size = s.size := by have := Hd.out; omega
  have HE : Hid (∀ i (h : i < p.size) (h2 : d + i < s.size), s[d + i]'h2 = p[i]) := by
    intro i h h2
    have e := Hd.out
    subst e
    exact heq i h
  clear heq
  have hd1 : (s.size : Int) - (p.size : Int) = (d : Int) := by omega
  have hd2 : d ≤ s.size := by omega
  have Hdd : Hid (d + p.size = s.size) := hd
  clear hd
  go_enter Tryd.func10, Tryd.ntmps10
  go_wp2
  go_loopw [6] (fun k w' => ∃ i n : Nat, k = .int .i64 i ∧ i ≤ p.size ∧ w' = w.drewN n) (fun k _ => p.size - (intOf k).toNat)
  case atStart => exact ⟨0, 0, rfl, by omega, rfl⟩
  case round =>
    obtain ⟨i, n, rfl, hi, rfl⟩ := hrel
    by_cases hlt : i < p.size
    · have hlt2 : d + i < s.size := by have := Hdd.out; omega
      have he := HE.out i hlt hlt2
      have g1 : (i : Int) < (p.size : Int) := by omega
      have g2 : (d : Int) + (i : Int) < (s.size : Int) := by omega
      have g3 : ((s[d + i].toNat : Int) != (p[i].toNat : Int)) = false := by rw [he]; simp
      have hwr : IntKind.i64.wrap ((d : Int) + (i : Int)) = (d : Int) + (i : Int) := by simp only [IntKind.wrap]; simp [IntKind.signed, IntKind.bits]; omega
      clear he
      have hix : ∀ wx, (Instr.index 9 (.string s) (.int .i64 ((d : Int) + (i : Int)))).run Tryd.prog wx = .ok (.int .u8 (s[d + i].toNat : Int)) wx := by
        intro wx
        rw [run_index_string (P := Tryd.prog) wx 9 s .i64 _ Tryd.underlying9, dif_pos ⟨by omega, g2⟩]
        congr 1
      go_wp2
      go_quiet (fail)
      go_wp2
      exact ⟨⟨i + 1, n + nq, by go_num, by omega, rfl⟩, by simp [intOf]; omega⟩
    · go_wp2
      go_ret
      exact ⟨rfl, n, rfl⟩

end Go.Proofs.Qxb6628890aDoor.Uri
