/-
  The two guards on bytes: each returns (what she answers does not matter to the laws); nothing turns.
-/
import Derived.Test.Qxb6628890aDoorText
namespace Go.Proofs.Qxb6628890aDoor.Uri
open Go.RowKit Go.Proofs.Qxb6628890aDoor

/-- it returned, one bool -/
def SomeBool (e : Ending) : Prop := ∃ b : Bool, e = .returned (.bool b)
theorem some_bool (b : Bool) : SomeBool (.returned (.bool b)) := ⟨b, rfl⟩

set_option maxHeartbeats 1000000 in
theorem bytes5_in (sc us ho he : ByteArray) (n k : Int) (L : List (ByteArray × ByteArray)) (blk o cap : Nat) (w : World) (h1 : sc.size ≤ maxLen) (h2 : us.size ≤ maxLen) (h3 : ho.size ≤ maxLen) (h4 : he.size ≤ maxLen) (h5 : L.length ≤ maxLen)
    (hc : Pairs w blk o L) :
    Calls Tryd.prog 5 #[.string sc, .string us, .string ho, .int .i64 n, .slice (some ⟨blk, o, none⟩) L.length cap, .string he, .int .i64 k] w fun e w' => SomeBool e ∧ w' = w := by
  unfold maxLen at h1 h2 h3 h4 h5
  have HC : Hid (Pairs w blk o L) := hc
  clear hc
  by_cases hg : sc.size + us.size + ho.size + L.length ≤ 1048576
  · go_enter Tryd.func5, Tryd.ntmps5
    go_wp2
    go_loop [15, 16] (fun z k => ∃ i z0 : Nat, k = .int .i64 i ∧ i ≤ L.length ∧ z = .int .i64 z0 ∧ z0 ≤ 1048576) (fun _ k => L.length - (intOf k).toNat)
    case atStart => exact ⟨0, sc.size + us.size + ho.size + L.length, rfl, by omega, by go_num, hg⟩
    case round =>
      obtain ⟨i, z0, rfl, hi, rfl, hz⟩ := hrel
      by_cases hlt : i < L.length
      · obtain ⟨g0, g1⟩ := HC.out i hlt
        generalize L[i].1 = nm at *
        generalize L[i].2 = vl at *
        go_wp2
        all_goals first
          | (go_ret; exact ⟨some_bool _, rfl⟩)
          | exact ⟨⟨i + 1, z0 + nm.size + vl.size, by go_num, by omega, by go_num, by omega⟩, by simp [intOf]; omega⟩
      · go_wp2
        all_goals
          go_ret
          exact ⟨some_bool _, rfl⟩
  · go_enter Tryd.func5, Tryd.ntmps5
    go_wp2
    all_goals
      go_ret
      exact ⟨some_bool _, rfl⟩

set_option maxHeartbeats 1000000 in
theorem bytes5_nil (sc us ho he : ByteArray) (n k : Int) (a : Option Addr) (cap : Nat) (w : World) (h1 : sc.size ≤ maxLen) (h2 : us.size ≤ maxLen) (h3 : ho.size ≤ maxLen) (h4 : he.size ≤ maxLen) :
    Calls Tryd.prog 5 #[.string sc, .string us, .string ho, .int .i64 n, .slice a 0 cap, .string he, .int .i64 k] w fun e w' => SomeBool e ∧ w' = w := by
  unfold maxLen at h1 h2 h3 h4
  by_cases hg : sc.size + us.size + ho.size ≤ 1048576
  · go_enter Tryd.func5, Tryd.ntmps5
    go_wp2
    refine wp_loop_rounds 1 ?_
    rw [rounds_succ]
    go_wp2
    all_goals
      go_ret
      exact ⟨some_bool _, rfl⟩
  · go_enter Tryd.func5, Tryd.ntmps5
    go_wp2
    all_goals
      go_ret
      exact ⟨some_bool _, rfl⟩

theorem bytes5 (sc us ho he : ByteArray) (n k : Int) (L : List (ByteArray × ByteArray)) (a : Option Addr) (cap : Nat) (w : World) (h1 : sc.size ≤ maxLen) (h2 : us.size ≤ maxLen) (h3 : ho.size ≤ maxLen) (h4 : he.size ≤ maxLen) (h5 : L.length ≤ maxLen)
    (h : AtL w a L) :
    Calls Tryd.prog 5 #[.string sc, .string us, .string ho, .int .i64 n, .slice a L.length cap, .string he, .int .i64 k] w fun e w' => SomeBool e ∧ w' = w := by
  rcases h with rfl | ⟨blk, o, rfl, _, hp⟩
  · exact bytes5_nil sc us ho he n k a cap w h1 h2 h3 h4
  · exact bytes5_in sc us ho he n k L blk o cap w h1 h2 h3 h4 h5 hp

set_option maxHeartbeats 1000000 in
theorem bytes11_in (sc us ho he : ByteArray) (n : Int) (L : List (ByteArray × ByteArray)) (blk o cap : Nat) (w : World) (h1 : sc.size ≤ maxLen) (h2 : us.size ≤ maxLen) (h3 : ho.size ≤ maxLen) (h4 : he.size ≤ maxLen) (h5 : L.length ≤ maxLen)
    (hc : Pairs w blk o L) :
    Calls Tryd.prog 11 #[.string sc, .string us, .string ho, .int .i64 n, .slice (some ⟨blk, o, none⟩) L.length cap, .string he] w fun e w' => SomeBool e ∧ w' = w := by
  unfold maxLen at h1 h2 h3 h4 h5
  have HC : Hid (Pairs w blk o L) := hc
  clear hc
  by_cases hg : sc.size + us.size + ho.size + L.length ≤ 1048576
  · go_enter Tryd.func11, Tryd.ntmps11
    go_wp2
    go_loop [13, 14] (fun z k => ∃ i z0 : Nat, k = .int .i64 i ∧ i ≤ L.length ∧ z = .int .i64 z0 ∧ z0 ≤ 1048576) (fun _ k => L.length - (intOf k).toNat)
    case atStart => exact ⟨0, sc.size + us.size + ho.size + L.length, rfl, by omega, by go_num, hg⟩
    case round =>
      obtain ⟨i, z0, rfl, hi, rfl, hz⟩ := hrel
      by_cases hlt : i < L.length
      · obtain ⟨g0, g1⟩ := HC.out i hlt
        generalize L[i].1 = nm at *
        generalize L[i].2 = vl at *
        go_wp2
        all_goals first
          | (go_ret; exact ⟨some_bool _, rfl⟩)
          | exact ⟨⟨i + 1, z0 + nm.size + vl.size, by go_num, by omega, by go_num, by omega⟩, by simp [intOf]; omega⟩
      · go_wp2
        all_goals
          go_ret
          exact ⟨some_bool _, rfl⟩
  · go_enter Tryd.func11, Tryd.ntmps11
    go_wp2
    all_goals
      go_ret
      exact ⟨some_bool _, rfl⟩

set_option maxHeartbeats 1000000 in
theorem bytes11_nil (sc us ho he : ByteArray) (n : Int) (a : Option Addr) (cap : Nat) (w : World) (h1 : sc.size ≤ maxLen) (h2 : us.size ≤ maxLen) (h3 : ho.size ≤ maxLen) (h4 : he.size ≤ maxLen) :
    Calls Tryd.prog 11 #[.string sc, .string us, .string ho, .int .i64 n, .slice a 0 cap, .string he] w fun e w' => SomeBool e ∧ w' = w := by
  unfold maxLen at h1 h2 h3 h4
  by_cases hg : sc.size + us.size + ho.size ≤ 1048576
  · go_enter Tryd.func11, Tryd.ntmps11
    go_wp2
    refine wp_loop_rounds 1 ?_
    rw [rounds_succ]
    go_wp2
    all_goals
      go_ret
      exact ⟨some_bool _, rfl⟩
  · go_enter Tryd.func11, Tryd.ntmps11
    go_wp2
    all_goals
      go_ret
      exact ⟨some_bool _, rfl⟩

theorem bytes11 (sc us ho he : ByteArray) (n : Int) (L : List (ByteArray × ByteArray)) (a : Option Addr) (cap : Nat) (w : World) (h1 : sc.size ≤ maxLen) (h2 : us.size ≤ maxLen) (h3 : ho.size ≤ maxLen) (h4 : he.size ≤ maxLen) (h5 : L.length ≤ maxLen)
    (h : AtL w a L) :
    Calls Tryd.prog 11 #[.string sc, .string us, .string ho, .int .i64 n, .slice a L.length cap, .string he] w fun e w' => SomeBool e ∧ w' = w := by
  rcases h with rfl | ⟨blk, o, rfl, _, hp⟩
  · exact bytes11_nil sc us ho he n a cap w h1 h2 h3 h4
  · exact bytes11_in sc us ho he n L blk o cap w h1 h2 h3 h4 h5 hp

end Go.Proofs.Qxb6628890aDoor.Uri
