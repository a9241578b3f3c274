/-
  LAWS FOR WHOLE STRUCTS HELD AS OPAQUE ARRAYS: a load and a store of all cells at once, without unrolling. (Each is stated at the operation written out, so that 'with_reducible refine' sees at once whether it fits.)
-/
import Derived.Test.Qxb6628926aRows
import Derived.WalkKit
import Derived.ProofKit
import Derived.WalkSpells
import Derived.WalkLawsBesides
import Derived.Below
import Derived.Deep.WholeRow
namespace Go.Proofs.Qxb6628926a.Net
open Go.RowKit

theorem info33 : (Try.prog.info? 33).map (·.size) = some 21 := by kernel_rfl
theorem info23 : (Try.prog.info? 23).map (·.size) = some 18 := by kernel_rfl

section
variable {ops : Array Oper} {rest : List Oper} {a : Act} {w : World} {Q : Exit → Act → World → Prop} {d : Option Tmp} {ty : TypeId} {ps : String} {af : Array Edge} {x y : Operand}

theorem ld33 (g : Nat) (C : Array Value) (hx : a.eval x = .pointer (some ⟨g, 0, none⟩)) (hC : C.size = 21) (hg : w.heap[g]? = some (.cells C 33 (0, 0)))
    (h : wpList Try.prog ops Q rest (a.put d (.agg C)) w) : wpList Try.prog ops Q ({ dst := d, op := .load 33 x, type := ty, pos := ps, after := af, guard := none } :: rest) a w :=
  wpList_load_row rfl 33 x rfl g hx 33 C (0, 0) _ hg Try.underlying33 rfl (by rw [info33, hC]) h

theorem ld33g (g : Nat) (C : Array Value) {gd : Option (Nat × Bool)} (hw : Region.wanted { dst := d, op := .load 33 x, type := ty, pos := ps, after := af, guard := gd } (yielded ops a.tmps) = true) (hx : a.eval x = .pointer (some ⟨g, 0, none⟩)) (hC : C.size = 21) (hg : w.heap[g]? = some (.cells C 33 (0, 0)))
    (h : wpList Try.prog ops Q rest (a.put d (.agg C)) w) : wpList Try.prog ops Q ({ dst := d, op := .load 33 x, type := ty, pos := ps, after := af, guard := gd } :: rest) a w :=
  BigFrame.wpList_want hw fun _ hK => wp_load_row 33 x rfl g hx 33 C (0, 0) _ hg Try.underlying33 rfl (by rw [info33, hC]) (hK _ _ h)

theorem ld23 (g : Nat) (C : Array Value) (hx : a.eval x = .pointer (some ⟨g, 0, none⟩)) (hC : C.size = 18) (hg : w.heap[g]? = some (.cells C 23 (0, 0)))
    (h : wpList Try.prog ops Q rest (a.put d (.agg C)) w) : wpList Try.prog ops Q ({ dst := d, op := .load 23 x, type := ty, pos := ps, after := af, guard := none } :: rest) a w :=
  wpList_load_row rfl 23 x rfl g hx 23 C (0, 0) _ hg Try.underlying23 rfl (by rw [info23, hC]) h

theorem st33 (g : Nat) (C old : Array Value) (hx : a.eval x = .pointer (some ⟨g, 0, none⟩)) (hy : a.eval y = .agg C) (hg : w.heap[g]? = some (.cells old 33 (0, 0))) (hold : old.size = 21) (hC : C.size = 21) (h1 : C.all (·.oneCell') = true)
    (h : wpList Try.prog ops Q rest (a.put d undef) (w.setRow g C)) : wpList Try.prog ops Q ({ dst := d, op := .store 33 x y, type := ty, pos := ps, after := af, guard := none } :: rest) a w := by
  refine wpList_plain rfl fun K hK => ?_
  unfold Oper.wp execOp
  simp only [hx, hy, Instr.storeAt, Instr.sureAddr, Sem.run_bind, Sem.run_pure, Result.andThen_ok, run_storeVar_row w g 33 33 old C hg (by rw [info33, hC]) (by rw [hold, hC]) h1]
  exact hK _ _ h

theorem st33n (g : Nat) (C : Array Value) (X : World) (old : Array Value) (hx : a.eval x = .pointer (some ⟨g, 0, none⟩)) (hy : a.eval y = .agg C) (hw : w = X.alloc (.cells old 33)) (hX : g = X.heap.size) (hold : old.size = 21) (hC : C.size = 21) (h1 : C.all (·.oneCell') = true)
    (h : wpList Try.prog ops Q rest (a.put d undef) (X.alloc (.cells C 33))) : wpList Try.prog ops Q ({ dst := d, op := .store 33 x y, type := ty, pos := ps, after := af, guard := none } :: rest) a w := by
  subst hw
  refine st33 g C old hx hy (by rw [hX]; exact heap_alloc_new X _) hold hC h1 ?_
  rw [hX, World.setRow_alloc_new]
  exact h
end

end Go.Proofs.Qxb6628926a.Net
