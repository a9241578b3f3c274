/-
  The row's opening: the cells of the drawn fields.
-/
import Derived.Test.Qxb6628926aBuild
import Derived.Test.Qxb6628926aSettle
import Derived.ProofKit
import Derived.OpenShut
import Derived.ShutString
namespace Go.Proofs.Qxb6628926a.Net
open Go.RowKit Go.ChangeShapes Go.WideShapes

theorem c2 : Try.prog.cellsOf 2 = 1 := by kernel_rfl
theorem c3 : Try.prog.cellsOf 3 = 1 := by kernel_rfl
theorem c4 : Try.prog.cellsOf 4 = 1 := by kernel_rfl
theorem c9 : Try.prog.cellsOf 9 = 1 := by kernel_rfl
theorem c23 : Try.prog.cellsOf 23 = 18 := by kernel_rfl

theorem get_of {l : List Value} {i : Nat} {v : Value} (h : (l.drop i).take 1 = [v]) : l[i]? = some v := by
  have h2 := congrArg (fun m : List Value => m[0]?) h
  simpa using h2

section
variable {H : Type} {enc : TypeId × Value → H} {w : World} {base : Nat} {spare : Nat → Bool} {held : Bool} {n : Nat} {cs : Array Value} {i : Nat} {x : DataW H × List MemPlace}
theorem str_at (h : DataW.trod enc Try.prog w base spare held n 9 ((cs.toList.drop i).take 1) = some x) : ∃ s, cs[i]? = some (.string s) := by
  obtain ⟨s, e, _, _⟩ := DataW.trod_string Try.underlying9 h
  exact ⟨s, by simpa using get_of e⟩
theorem int_at {t : TypeId} (ht : Try.prog.underlying t = some (.int .i64)) (h : DataW.trod enc Try.prog w base spare held n t ((cs.toList.drop i).take 1) = some x) : ∃ z, cs[i]? = some (.int .i64 z) := by
  obtain ⟨z, e, _, _⟩ := DataW.trod_int ht h
  exact ⟨z, by simpa using get_of e⟩
theorem bool_at (h : DataW.trod enc Try.prog w base spare held n 4 ((cs.toList.drop i).take 1) = some x) : ∃ b, cs[i]? = some (.bool b) := by
  obtain ⟨b, e, _⟩ := DataW.trod_bool Try.underlying4 h
  exact ⟨b, by simpa using get_of e⟩
end

theorem field_at {H : Type} {enc : TypeId × Value → H} {w : World} {base : Nat} {spare : Nat → Bool} {held : Bool} {fuel : Nat} {cs : Array Value} {x : DataW H × List MemPlace} {fs : Array Field} (hu : Try.prog.underlying 23 = some (.struct fs))
    (h : DataW.trod enc Try.prog w base spare held fuel 23 cs.toList = some x) :
    cs.size = 18 ∧ ∃ n, ∀ (i : Nat) (f : Field), fs[i]? = some f → Try.prog.cellsOf f.type = 1 → ∃ y, DataW.trod enc Try.prog w base spare held n f.type ((cs.toList.drop f.offset).take 1) = some y := by
  obtain ⟨xs, n, _, _, hlen, hxl, hf⟩ := DataW.trod_struct hu h
  refine ⟨by rw [c23] at hlen; simpa using hlen, n, fun i f hi hc => ?_⟩
  have h1 := hf i f hi
  rw [hc] at h1
  have hlt : i < xs.length := by
    rw [hxl]
    exact (Array.getElem?_eq_some_iff.1 hi).1
  rw [List.getElem?_eq_getElem hlt] at h1
  exact ⟨_, h1⟩

theorem fields_of {H : Type} {enc : TypeId × Value → H} {w : World} {base : Nat} {spare : Nat → Bool} {held : Bool} {fuel : Nat} {cs : Array Value} {x : DataW H × List MemPlace}
    (h : DataW.trod enc Try.prog w base spare held fuel 23 cs.toList = some x) : ∃ net act, Fields cs net act := by
  obtain ⟨hsize, n, hall⟩ := field_at Try.underlying23 h
  obtain ⟨_, t0⟩ := hall 0 _ rfl c2
  obtain ⟨i0, h0⟩ := int_at Try.underlying2 t0
  obtain ⟨_, t1⟩ := hall 1 _ rfl c9
  obtain ⟨s1, h1⟩ := str_at t1
  obtain ⟨_, t2⟩ := hall 2 _ rfl c9
  obtain ⟨s2, h2⟩ := str_at t2
  obtain ⟨_, t3⟩ := hall 3 _ rfl c9
  obtain ⟨s3, h3⟩ := str_at t3
  obtain ⟨_, t4⟩ := hall 4 _ rfl c9
  obtain ⟨s4, h4⟩ := str_at t4
  obtain ⟨_, t5⟩ := hall 5 _ rfl c9
  obtain ⟨s5, h5⟩ := str_at t5
  obtain ⟨_, t6⟩ := hall 6 _ rfl c9
  obtain ⟨s6, h6⟩ := str_at t6
  obtain ⟨_, t7⟩ := hall 7 _ rfl c9
  obtain ⟨s7, h7⟩ := str_at t7
  obtain ⟨_, t8⟩ := hall 8 _ rfl c2
  obtain ⟨i8, h8⟩ := int_at Try.underlying2 t8
  obtain ⟨_, t9⟩ := hall 9 _ rfl c9
  obtain ⟨s9, h9⟩ := str_at t9
  obtain ⟨_, t10⟩ := hall 10 _ rfl c3
  obtain ⟨i10, h10⟩ := int_at Try.underlying3 t10
  obtain ⟨_, t11⟩ := hall 11 _ rfl c9
  obtain ⟨s11, h11⟩ := str_at t11
  obtain ⟨_, t12⟩ := hall 12 _ rfl c2
  obtain ⟨i12, h12⟩ := int_at Try.underlying2 t12
  obtain ⟨_, t13⟩ := hall 13 _ rfl c3
  obtain ⟨i13, h13⟩ := int_at Try.underlying3 t13
  obtain ⟨_, t14⟩ := hall 14 _ rfl c3
  obtain ⟨i14, h14⟩ := int_at Try.underlying3 t14
  obtain ⟨_, t15⟩ := hall 15 _ rfl c3
  obtain ⟨i15, h15⟩ := int_at Try.underlying3 t15
  obtain ⟨_, t16⟩ := hall 16 _ rfl c4
  obtain ⟨b16, h16⟩ := bool_at t16
  obtain ⟨_, t17⟩ := hall 17 _ rfl c4
  obtain ⟨b17, h17⟩ := bool_at t17
  refine ⟨i15, b17, hsize, h15, h17, fun a w => bytes5 cs s1 s2 s3 s4 s5 s6 s7 s9 s11 a w h1 h2 h3 h4 h5 h6 h7 h9 h11, fun a w => bytes13 cs s1 s2 s3 s4 s5 s6 s7 s9 s11 a w h1 h2 h3 h4 h5 h6 h7 h9 h11, fun w => big6 cs s1 s2 s3 s4 s5 s6 s7 s9 s11 w h1 h2 h3 h4 h5 h6 h7 h9 h11, fun w => ?_⟩
  cases b17 with
  | false => exact build_no cs i0 i8 i10 i12 i13 i14 i15 s1 s2 s3 s4 s5 s6 s7 s9 s11 b16 w h0 h1 h2 h3 h4 h5 h6 h7 h8 h9 h10 h11 h12 h13 h14 h15 h16 h17
  | true => exact build_yes cs i0 i8 i10 i12 i13 i14 i15 s1 s2 s3 s4 s5 s6 s7 s9 s11 b16 w h0 h1 h2 h3 h4 h5 h6 h7 h8 h9 h10 h11 h12 h13 h14 h15 h16 h17

end Go.Proofs.Qxb6628926a.Net
