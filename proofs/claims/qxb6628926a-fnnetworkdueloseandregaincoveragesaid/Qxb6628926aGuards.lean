/-
  The guards on bytes: each returns (what she answers does not matter to the laws); nothing that was there turns.
-/
import Derived.Test.Qxb6628926aCard
namespace Go.Proofs.Qxb6628926a.Net
open Go.RowKit

/-- it returned, one bool -/
def SomeBool (e : Ending) : Prop := ∃ b : Bool, e = .returned (.bool b)
theorem some_bool (b : Bool) : SomeBool (.returned (.bool b)) := ⟨b, rfl⟩

set_option maxHeartbeats 2000000 in
theorem bytes5 (F : Array Value) (s1 s2 s3 s4 s5 s6 s7 s9 s11 : ByteArray) (a : Bool) (w : World) (h1 : F[1]? = some (.string s1)) (h2 : F[2]? = some (.string s2)) (h3 : F[3]? = some (.string s3)) (h4 : F[4]? = some (.string s4)) (h5 : F[5]? = some (.string s5)) (h6 : F[6]? = some (.string s6)) (h7 : F[7]? = some (.string s7)) (h9 : F[9]? = some (.string s9)) (h11 : F[11]? = some (.string s11)) :
    Calls Try.prog 5 #[.agg F, .bool a] w fun e w' => SomeBool e ∧ Below w.heap.size w w' := by
  go_enter Try.func5, Try.ntmps5
  go_wp2
  all_goals
    go_ret
    exact ⟨some_bool _, below_new _ _⟩

set_option maxHeartbeats 2000000 in
theorem big6 (F : Array Value) (s1 s2 s3 s4 s5 s6 s7 s9 s11 : ByteArray) (w : World) (h1 : F[1]? = some (.string s1)) (h2 : F[2]? = some (.string s2)) (h3 : F[3]? = some (.string s3)) (h4 : F[4]? = some (.string s4)) (h5 : F[5]? = some (.string s5)) (h6 : F[6]? = some (.string s6)) (h7 : F[7]? = some (.string s7)) (h9 : F[9]? = some (.string s9)) (h11 : F[11]? = some (.string s11)) :
    Calls Try.prog 6 #[.agg F] w fun e w' => SomeBool e ∧ Below w.heap.size w w' := by
  go_enter Try.func6, Try.ntmps6
  go_wp2
  all_goals
    go_ret
    exact ⟨some_bool _, below_new _ _⟩

set_option maxHeartbeats 2000000 in
theorem bytes13 (F : Array Value) (s1 s2 s3 s4 s5 s6 s7 s9 s11 : ByteArray) (a : Bool) (w : World) (h1 : F[1]? = some (.string s1)) (h2 : F[2]? = some (.string s2)) (h3 : F[3]? = some (.string s3)) (h4 : F[4]? = some (.string s4)) (h5 : F[5]? = some (.string s5)) (h6 : F[6]? = some (.string s6)) (h7 : F[7]? = some (.string s7)) (h9 : F[9]? = some (.string s9)) (h11 : F[11]? = some (.string s11)) :
    Calls Try.prog 13 #[.agg F, .bool a] w fun e w' => SomeBool e ∧ Below w.heap.size w w' := by
  go_enter Try.func13, Try.ntmps13
  go_wp2
  all_goals
    go_ret
    exact ⟨some_bool _, below_new _ _⟩

end Go.Proofs.Qxb6628926a.Net
