/-
  THE WALK OF FnNetworkDueSettlesInOneStep: twelve cases (the coverage, put to use or not, the status 0, 1 or another), one text made by program.
-/
import Derived.Test.Qxb6628926aCard
import Derived.Test.Qxb6628926aGuards
import Derived.Deep.QuietTactic
import Derived.BigQuiet
namespace Go.Proofs.Qxb6628926a.Net
open Go.RowKit

/-- what the laws ask of the drawn fields' cells -/
structure Fields (F : Array Value) (net : Int) (act : Bool) : Prop where
  size : F.size = 18
  fnet : F[15]? = some (.int .i64 net)
  fact : F[17]? = some (.bool act)
  b5 : ∀ (a : Bool) (w : World), Calls Try.prog 5 #[.agg F, .bool a] w fun e w' => SomeBool e ∧ Below w.heap.size w w'
  b13 : ∀ (a : Bool) (w : World), Calls Try.prog 13 #[.agg F, .bool a] w fun e w' => SomeBool e ∧ Below w.heap.size w w'
  b6 : ∀ (w : World), Calls Try.prog 6 #[.agg F] w fun e w' => SomeBool e ∧ Below w.heap.size w w'
  build : ∀ (w : World), Calls Try.prog 7 #[.agg F] w fun e w' => ∃ C, e = .returned (.agg C) ∧ CardIs C net act ∧ Below w.heap.size w w'

theorem due_x {net : Int} {act active : Bool} (n0 : (net == 0) = false) (n1 : (net == 1) = false) : due net act active = { data := #[] } := by
  cases active <;> cases act <;> simp [due, n0, n1]

theorem toward_same (b : Bool) (w : World) : Calls Try.prog 9 #[.bool b] w fun e w' => e = .returned (.string (if b then { data := #[114, 101, 115, 117, 109, 101] } else { data := #[115, 116, 111, 112] })) ∧ w = w' :=
  (toward_any b w).mono fun _ _ h => ⟨h.1, h.2.symm⟩

theorem cell_in {W : World} {g j : Nat} {F : Array Value} {t : TypeId} {v : Value} (h : W.heap[g]? = some (.cells F t (0, 0))) (hv : F[j]? = some v) : W.cell? ⟨g, j, none⟩ = some v := by
  rw [cell_of_row W g j F t (0, 0) h]; exact hv
theorem lt_of_heap {W : World} {g : Nat} {o : Obj} (h : W.heap[g]? = some o) : g < W.heap.size := (Array.getElem?_eq_some_iff.1 h).1

set_option maxHeartbeats 2000000 in
theorem settle_tt0 (F : Array Value) (w : World) (hF : Fields F 0 true) :
    Calls Try.prog 3 #[.agg F, .bool true] w fun e w' => e = .returned (.bool true) ∧ Below w.heap.size w w' := by
  have hg0 : (w.alloc (.cells F 23)).heap[w.heap.size]? = some (.cells F 23) := heap_alloc_new w _
  have hb0 : Below w.heap.size w (w.alloc (.cells F 23)) := below_new _ _
  have hS := hF.size
  have HS : Hid (F.size = 18) := hS
  clear hS
  go_enter Try.func3, Try.ntmps3
  go_wp2_with ((with_reducible refine ld23 w.heap.size F ?_ HS.out hg0 ?_); exact rfl)
  refine (hF.b5 true _).mono ?_
  rintro e W1 ⟨⟨b, rfl⟩, hb1⟩
  have hg1 := kept hb1 hg0
  have hB1 := below_trans hb0 hb1
  clear hg0 hb0 hb1
  cases b with
  | false =>
    go_wp2
    go_ret
    exact ⟨rfl, hB1⟩
  | true =>
  go_wp2_with ((with_reducible refine ld23 w.heap.size F ?_ HS.out hg1 ?_); exact rfl)
  refine (hF.b6 _).mono ?_
  rintro e W2 ⟨⟨b, rfl⟩, hb2⟩
  have hg2 := kept hb2 hg1
  have hB2 := below_trans hB1 hb2
  clear hg1 hB1 hb2
  cases b with
  | true =>
    go_wp2
    go_ret
    exact ⟨rfl, hB2⟩
  | false =>
  go_wp2_with ((with_reducible refine ld23 w.heap.size F ?_ HS.out hg2 ?_); exact rfl)
  refine (hF.build _).mono ?_
  rintro e W3 ⟨C, rfl, hC, hb3⟩
  have hg3 := kept hb3 hg2
  have hB3 := below_trans hB2 hb3
  clear hg2 hB2 hb3
  have c15 := cell_in hg3 hF.fnet
  have c17 := cell_in hg3 hF.fact
  have hlt := lt_of_heap hg3
  have Hg3 : Hid (W3.heap[w.heap.size]? = some (.cells F 23)) := hg3
  clear hg3
  go_wp2_with ((with_reducible refine st33n W3.heap.size C W3 zero33 ?_ ?_ ?_ rfl ?_ hC.size hC.one ?_); exact rfl; exact rfl; exact rfl; exact rfl)
  go_quiet ((go_at_call 8; exact Calls.quiet_of_same (level_any _ _)))
  have hgC : ((W3.alloc (.cells C 33)).drewN nq).heap[W3.heap.size]? = some (.cells C 33) := heap_alloc_new W3 _
  have hgF : ((W3.alloc (.cells C 33)).drewN nq).heap[w.heap.size]? = some (.cells F 23) := kept (below_drewN (below_new W3 _) nq) Hg3.out
  have hB4 : Below w.heap.size w ((W3.alloc (.cells C 33)).drewN nq) := below_drewN (below_trans hB3 (below_new W3 _)) nq
  generalize (W3.alloc (.cells C 33)).drewN nq = W4 at *
  clear c15 c17 hB3 Hg3
  go_wp2_with (first | ((with_reducible refine ld33 W3.heap.size C ?_ hC.size hgC ?_); exact rfl) | (go_at_call 9; refine (toward_same _ _).mono ?_; rintro e w' ⟨rfl, rfl⟩))
  refine (due_val hC true { data := #[114, 101, 115, 117, 109, 101] } rfl _).mono ?_
  rintro e W5 ⟨rfl, hb5⟩
  have hgC5 := kept hb5 hgC
  have hgF5 := kept hb5 hgF
  have hB5 := below_trans hB4 hb5
  clear hgC hgF hB4 hb5
  go_wp2_with ((with_reducible refine ld33 W3.heap.size C ?_ hC.size hgC5 ?_); exact rfl)
  refine (apply_resume hC _).mono ?_
  rintro e W6 ⟨C2, rfl, hC2, hb6⟩
  have hgF6 := kept (below_new W6 (.cells C2 33)) (kept hb6 hgF5)
  have hB6 := below_trans (below_trans hB5 hb6) (below_new W6 (.cells C2 33))
  have hgC6 : (W6.alloc (.cells C2 33)).heap[W6.heap.size]? = some (.cells C2 33) := heap_alloc_new W6 _
  clear hgC5 hgF5 hB5 hb6
  go_wp2_with (first | ((with_reducible refine st33n W6.heap.size C2 W6 zero33 ?_ ?_ ?_ rfl ?_ hC2.size hC2.one ?_); exact rfl; exact rfl; exact rfl; exact rfl) | ((with_reducible refine ld33 W6.heap.size C2 ?_ hC2.size hgC6 ?_); exact rfl))
  refine (due_val hC2 true { data := #[] } rfl _).mono ?_
  rintro e W7 ⟨rfl, hb7⟩
  have hgC7 := kept hb7 hgC6
  have c17 := cell_in (kept hb7 hgF6) hF.fact
  have hlt7 := lt_of_heap (kept hb7 hgF6)
  have hB7 := below_trans hB6 hb7
  clear hgC6 hgF6 hB6 hb7 hlt
  go_wp2_with (first | ((with_reducible refine ld33g W6.heap.size C2 ?_ ?_ hC2.size hgC7 ?_); exact rfl; exact rfl) | (go_at_call 12; refine (stopped_any hC2 _).mono ?_; rintro e w' ⟨rfl, rfl⟩))
  go_ret
  exact ⟨rfl, below_trans hB7 (below_new _ _)⟩

set_option maxHeartbeats 2000000 in
theorem settle_tt1 (F : Array Value) (w : World) (hF : Fields F 1 true) :
    Calls Try.prog 3 #[.agg F, .bool true] w fun e w' => e = .returned (.bool true) ∧ Below w.heap.size w w' := by
  have hg0 : (w.alloc (.cells F 23)).heap[w.heap.size]? = some (.cells F 23) := heap_alloc_new w _
  have hb0 : Below w.heap.size w (w.alloc (.cells F 23)) := below_new _ _
  have hS := hF.size
  have HS : Hid (F.size = 18) := hS
  clear hS
  go_enter Try.func3, Try.ntmps3
  go_wp2_with ((with_reducible refine ld23 w.heap.size F ?_ HS.out hg0 ?_); exact rfl)
  refine (hF.b5 true _).mono ?_
  rintro e W1 ⟨⟨b, rfl⟩, hb1⟩
  have hg1 := kept hb1 hg0
  have hB1 := below_trans hb0 hb1
  clear hg0 hb0 hb1
  cases b with
  | false =>
    go_wp2
    go_ret
    exact ⟨rfl, hB1⟩
  | true =>
  go_wp2_with ((with_reducible refine ld23 w.heap.size F ?_ HS.out hg1 ?_); exact rfl)
  refine (hF.b6 _).mono ?_
  rintro e W2 ⟨⟨b, rfl⟩, hb2⟩
  have hg2 := kept hb2 hg1
  have hB2 := below_trans hB1 hb2
  clear hg1 hB1 hb2
  cases b with
  | true =>
    go_wp2
    go_ret
    exact ⟨rfl, hB2⟩
  | false =>
  go_wp2_with ((with_reducible refine ld23 w.heap.size F ?_ HS.out hg2 ?_); exact rfl)
  refine (hF.build _).mono ?_
  rintro e W3 ⟨C, rfl, hC, hb3⟩
  have hg3 := kept hb3 hg2
  have hB3 := below_trans hB2 hb3
  clear hg2 hB2 hb3
  have c15 := cell_in hg3 hF.fnet
  have c17 := cell_in hg3 hF.fact
  have hlt := lt_of_heap hg3
  have Hg3 : Hid (W3.heap[w.heap.size]? = some (.cells F 23)) := hg3
  clear hg3
  go_wp2_with ((with_reducible refine st33n W3.heap.size C W3 zero33 ?_ ?_ ?_ rfl ?_ hC.size hC.one ?_); exact rfl; exact rfl; exact rfl; exact rfl)
  go_quiet ((go_at_call 8; exact Calls.quiet_of_same (level_any _ _)))
  have hgC : ((W3.alloc (.cells C 33)).drewN nq).heap[W3.heap.size]? = some (.cells C 33) := heap_alloc_new W3 _
  have hgF : ((W3.alloc (.cells C 33)).drewN nq).heap[w.heap.size]? = some (.cells F 23) := kept (below_drewN (below_new W3 _) nq) Hg3.out
  have hB4 : Below w.heap.size w ((W3.alloc (.cells C 33)).drewN nq) := below_drewN (below_trans hB3 (below_new W3 _)) nq
  generalize (W3.alloc (.cells C 33)).drewN nq = W4 at *
  clear c15 c17 hB3 Hg3
  go_wp2_with (first | ((with_reducible refine ld33 W3.heap.size C ?_ hC.size hgC ?_); exact rfl) | (go_at_call 9; refine (toward_same _ _).mono ?_; rintro e w' ⟨rfl, rfl⟩))
  refine (due_val hC true { data := #[] } rfl _).mono ?_
  rintro e W5 ⟨rfl, hb5⟩
  have hgC5 := kept hb5 hgC
  have hgF5 := kept hb5 hgF
  have hB5 := below_trans hB4 hb5
  clear hgC hgF hB4 hb5
  go_wp2_with ((with_reducible refine ld33 W3.heap.size C ?_ hC.size hgC5 ?_); exact rfl)
  refine (apply_none hC _).mono ?_
  rintro e W6 ⟨C2, rfl, hC2, hb6⟩
  have hgF6 := kept (below_new W6 (.cells C2 33)) (kept hb6 hgF5)
  have hB6 := below_trans (below_trans hB5 hb6) (below_new W6 (.cells C2 33))
  have hgC6 : (W6.alloc (.cells C2 33)).heap[W6.heap.size]? = some (.cells C2 33) := heap_alloc_new W6 _
  clear hgC5 hgF5 hB5 hb6
  go_wp2_with (first | ((with_reducible refine st33n W6.heap.size C2 W6 zero33 ?_ ?_ ?_ rfl ?_ hC2.size hC2.one ?_); exact rfl; exact rfl; exact rfl; exact rfl) | ((with_reducible refine ld33 W6.heap.size C2 ?_ hC2.size hgC6 ?_); exact rfl))
  refine (due_val hC2 true { data := #[] } rfl _).mono ?_
  rintro e W7 ⟨rfl, hb7⟩
  have hgC7 := kept hb7 hgC6
  have c17 := cell_in (kept hb7 hgF6) hF.fact
  have hlt7 := lt_of_heap (kept hb7 hgF6)
  have hB7 := below_trans hB6 hb7
  clear hgC6 hgF6 hB6 hb7 hlt
  go_wp2_with (first | ((with_reducible refine ld33g W6.heap.size C2 ?_ ?_ hC2.size hgC7 ?_); exact rfl; exact rfl) | (go_at_call 12; refine (stopped_any hC2 _).mono ?_; rintro e w' ⟨rfl, rfl⟩))
  go_ret
  exact ⟨rfl, hB7⟩

set_option maxHeartbeats 2000000 in
theorem settle_ttx (F : Array Value) (net : Int) (w : World) (hF : Fields F net true) (n0 : (net == 0) = false) (n1 : (net == 1) = false) :
    Calls Try.prog 3 #[.agg F, .bool true] w fun e w' => e = .returned (.bool true) ∧ Below w.heap.size w w' := by
  have hg0 : (w.alloc (.cells F 23)).heap[w.heap.size]? = some (.cells F 23) := heap_alloc_new w _
  have hb0 : Below w.heap.size w (w.alloc (.cells F 23)) := below_new _ _
  have hS := hF.size
  have HS : Hid (F.size = 18) := hS
  clear hS
  go_enter Try.func3, Try.ntmps3
  go_wp2_with ((with_reducible refine ld23 w.heap.size F ?_ HS.out hg0 ?_); exact rfl)
  refine (hF.b5 true _).mono ?_
  rintro e W1 ⟨⟨b, rfl⟩, hb1⟩
  have hg1 := kept hb1 hg0
  have hB1 := below_trans hb0 hb1
  clear hg0 hb0 hb1
  cases b with
  | false =>
    go_wp2
    go_ret
    exact ⟨rfl, hB1⟩
  | true =>
  go_wp2_with ((with_reducible refine ld23 w.heap.size F ?_ HS.out hg1 ?_); exact rfl)
  refine (hF.b6 _).mono ?_
  rintro e W2 ⟨⟨b, rfl⟩, hb2⟩
  have hg2 := kept hb2 hg1
  have hB2 := below_trans hB1 hb2
  clear hg1 hB1 hb2
  cases b with
  | true =>
    go_wp2
    go_ret
    exact ⟨rfl, hB2⟩
  | false =>
  go_wp2_with ((with_reducible refine ld23 w.heap.size F ?_ HS.out hg2 ?_); exact rfl)
  refine (hF.build _).mono ?_
  rintro e W3 ⟨C, rfl, hC, hb3⟩
  have hg3 := kept hb3 hg2
  have hB3 := below_trans hB2 hb3
  clear hg2 hB2 hb3
  have c15 := cell_in hg3 hF.fnet
  have c17 := cell_in hg3 hF.fact
  have hlt := lt_of_heap hg3
  have Hg3 : Hid (W3.heap[w.heap.size]? = some (.cells F 23)) := hg3
  clear hg3
  go_wp2_with ((with_reducible refine st33n W3.heap.size C W3 zero33 ?_ ?_ ?_ rfl ?_ hC.size hC.one ?_); exact rfl; exact rfl; exact rfl; exact rfl)
  go_quiet ((go_at_call 8; exact Calls.quiet_of_same (level_any _ _)))
  have hgC : ((W3.alloc (.cells C 33)).drewN nq).heap[W3.heap.size]? = some (.cells C 33) := heap_alloc_new W3 _
  have hgF : ((W3.alloc (.cells C 33)).drewN nq).heap[w.heap.size]? = some (.cells F 23) := kept (below_drewN (below_new W3 _) nq) Hg3.out
  have hB4 : Below w.heap.size w ((W3.alloc (.cells C 33)).drewN nq) := below_drewN (below_trans hB3 (below_new W3 _)) nq
  generalize (W3.alloc (.cells C 33)).drewN nq = W4 at *
  clear c15 c17 hB3 Hg3
  go_wp2_with (first | ((with_reducible refine ld33 W3.heap.size C ?_ hC.size hgC ?_); exact rfl) | (go_at_call 9; refine (toward_same _ _).mono ?_; rintro e w' ⟨rfl, rfl⟩))
  refine (due_val hC true { data := #[] } (due_x n0 n1) _).mono ?_
  rintro e W5 ⟨rfl, hb5⟩
  have hgC5 := kept hb5 hgC
  have hgF5 := kept hb5 hgF
  have hB5 := below_trans hB4 hb5
  clear hgC hgF hB4 hb5
  go_wp2_with ((with_reducible refine ld33 W3.heap.size C ?_ hC.size hgC5 ?_); exact rfl)
  refine (apply_none hC _).mono ?_
  rintro e W6 ⟨C2, rfl, hC2, hb6⟩
  have hgF6 := kept (below_new W6 (.cells C2 33)) (kept hb6 hgF5)
  have hB6 := below_trans (below_trans hB5 hb6) (below_new W6 (.cells C2 33))
  have hgC6 : (W6.alloc (.cells C2 33)).heap[W6.heap.size]? = some (.cells C2 33) := heap_alloc_new W6 _
  clear hgC5 hgF5 hB5 hb6
  go_wp2_with (first | ((with_reducible refine st33n W6.heap.size C2 W6 zero33 ?_ ?_ ?_ rfl ?_ hC2.size hC2.one ?_); exact rfl; exact rfl; exact rfl; exact rfl) | ((with_reducible refine ld33 W6.heap.size C2 ?_ hC2.size hgC6 ?_); exact rfl))
  refine (due_val hC2 true { data := #[] } (due_x n0 n1) _).mono ?_
  rintro e W7 ⟨rfl, hb7⟩
  have hgC7 := kept hb7 hgC6
  have c17 := cell_in (kept hb7 hgF6) hF.fact
  have hlt7 := lt_of_heap (kept hb7 hgF6)
  have hB7 := below_trans hB6 hb7
  clear hgC6 hgF6 hB6 hb7 hlt
  go_wp2_with (first | ((with_reducible refine ld33g W6.heap.size C2 ?_ ?_ hC2.size hgC7 ?_); exact rfl; exact rfl) | (go_at_call 12; refine (stopped_any hC2 _).mono ?_; rintro e w' ⟨rfl, rfl⟩))
  go_ret
  exact ⟨rfl, hB7⟩

set_option maxHeartbeats 2000000 in
theorem settle_tf0 (F : Array Value) (w : World) (hF : Fields F 0 false) :
    Calls Try.prog 3 #[.agg F, .bool true] w fun e w' => e = .returned (.bool true) ∧ Below w.heap.size w w' := by
  have hg0 : (w.alloc (.cells F 23)).heap[w.heap.size]? = some (.cells F 23) := heap_alloc_new w _
  have hb0 : Below w.heap.size w (w.alloc (.cells F 23)) := below_new _ _
  have hS := hF.size
  have HS : Hid (F.size = 18) := hS
  clear hS
  go_enter Try.func3, Try.ntmps3
  go_wp2_with ((with_reducible refine ld23 w.heap.size F ?_ HS.out hg0 ?_); exact rfl)
  refine (hF.b5 true _).mono ?_
  rintro e W1 ⟨⟨b, rfl⟩, hb1⟩
  have hg1 := kept hb1 hg0
  have hB1 := below_trans hb0 hb1
  clear hg0 hb0 hb1
  cases b with
  | false =>
    go_wp2
    go_ret
    exact ⟨rfl, hB1⟩
  | true =>
  go_wp2_with ((with_reducible refine ld23 w.heap.size F ?_ HS.out hg1 ?_); exact rfl)
  refine (hF.b6 _).mono ?_
  rintro e W2 ⟨⟨b, rfl⟩, hb2⟩
  have hg2 := kept hb2 hg1
  have hB2 := below_trans hB1 hb2
  clear hg1 hB1 hb2
  cases b with
  | true =>
    go_wp2
    go_ret
    exact ⟨rfl, hB2⟩
  | false =>
  go_wp2_with ((with_reducible refine ld23 w.heap.size F ?_ HS.out hg2 ?_); exact rfl)
  refine (hF.build _).mono ?_
  rintro e W3 ⟨C, rfl, hC, hb3⟩
  have hg3 := kept hb3 hg2
  have hB3 := below_trans hB2 hb3
  clear hg2 hB2 hb3
  have c15 := cell_in hg3 hF.fnet
  have c17 := cell_in hg3 hF.fact
  have hlt := lt_of_heap hg3
  have Hg3 : Hid (W3.heap[w.heap.size]? = some (.cells F 23)) := hg3
  clear hg3
  go_wp2_with ((with_reducible refine st33n W3.heap.size C W3 zero33 ?_ ?_ ?_ rfl ?_ hC.size hC.one ?_); exact rfl; exact rfl; exact rfl; exact rfl)
  go_quiet ((go_at_call 8; exact Calls.quiet_of_same (level_any _ _)))
  have hgC : ((W3.alloc (.cells C 33)).drewN nq).heap[W3.heap.size]? = some (.cells C 33) := heap_alloc_new W3 _
  have hgF : ((W3.alloc (.cells C 33)).drewN nq).heap[w.heap.size]? = some (.cells F 23) := kept (below_drewN (below_new W3 _) nq) Hg3.out
  have hB4 : Below w.heap.size w ((W3.alloc (.cells C 33)).drewN nq) := below_drewN (below_trans hB3 (below_new W3 _)) nq
  generalize (W3.alloc (.cells C 33)).drewN nq = W4 at *
  clear c15 c17 hB3 Hg3
  go_wp2_with (first | ((with_reducible refine ld33 W3.heap.size C ?_ hC.size hgC ?_); exact rfl) | (go_at_call 9; refine (toward_same _ _).mono ?_; rintro e w' ⟨rfl, rfl⟩))
  refine (due_val hC true { data := #[] } rfl _).mono ?_
  rintro e W5 ⟨rfl, hb5⟩
  have hgC5 := kept hb5 hgC
  have hgF5 := kept hb5 hgF
  have hB5 := below_trans hB4 hb5
  clear hgC hgF hB4 hb5
  go_wp2_with ((with_reducible refine ld33 W3.heap.size C ?_ hC.size hgC5 ?_); exact rfl)
  refine (apply_none hC _).mono ?_
  rintro e W6 ⟨C2, rfl, hC2, hb6⟩
  have hgF6 := kept (below_new W6 (.cells C2 33)) (kept hb6 hgF5)
  have hB6 := below_trans (below_trans hB5 hb6) (below_new W6 (.cells C2 33))
  have hgC6 : (W6.alloc (.cells C2 33)).heap[W6.heap.size]? = some (.cells C2 33) := heap_alloc_new W6 _
  clear hgC5 hgF5 hB5 hb6
  go_wp2_with (first | ((with_reducible refine st33n W6.heap.size C2 W6 zero33 ?_ ?_ ?_ rfl ?_ hC2.size hC2.one ?_); exact rfl; exact rfl; exact rfl; exact rfl) | ((with_reducible refine ld33 W6.heap.size C2 ?_ hC2.size hgC6 ?_); exact rfl))
  refine (due_val hC2 true { data := #[] } rfl _).mono ?_
  rintro e W7 ⟨rfl, hb7⟩
  have hgC7 := kept hb7 hgC6
  have c17 := cell_in (kept hb7 hgF6) hF.fact
  have hlt7 := lt_of_heap (kept hb7 hgF6)
  have hB7 := below_trans hB6 hb7
  clear hgC6 hgF6 hB6 hb7 hlt
  go_wp2_with (first | ((with_reducible refine ld33g W6.heap.size C2 ?_ ?_ hC2.size hgC7 ?_); exact rfl; exact rfl) | (go_at_call 12; refine (stopped_any hC2 _).mono ?_; rintro e w' ⟨rfl, rfl⟩))
  go_ret
  exact ⟨rfl, hB7⟩

set_option maxHeartbeats 2000000 in
theorem settle_tf1 (F : Array Value) (w : World) (hF : Fields F 1 false) :
    Calls Try.prog 3 #[.agg F, .bool true] w fun e w' => e = .returned (.bool true) ∧ Below w.heap.size w w' := by
  have hg0 : (w.alloc (.cells F 23)).heap[w.heap.size]? = some (.cells F 23) := heap_alloc_new w _
  have hb0 : Below w.heap.size w (w.alloc (.cells F 23)) := below_new _ _
  have hS := hF.size
  have HS : Hid (F.size = 18) := hS
  clear hS
  go_enter Try.func3, Try.ntmps3
  go_wp2_with ((with_reducible refine ld23 w.heap.size F ?_ HS.out hg0 ?_); exact rfl)
  refine (hF.b5 true _).mono ?_
  rintro e W1 ⟨⟨b, rfl⟩, hb1⟩
  have hg1 := kept hb1 hg0
  have hB1 := below_trans hb0 hb1
  clear hg0 hb0 hb1
  cases b with
  | false =>
    go_wp2
    go_ret
    exact ⟨rfl, hB1⟩
  | true =>
  go_wp2_with ((with_reducible refine ld23 w.heap.size F ?_ HS.out hg1 ?_); exact rfl)
  refine (hF.b6 _).mono ?_
  rintro e W2 ⟨⟨b, rfl⟩, hb2⟩
  have hg2 := kept hb2 hg1
  have hB2 := below_trans hB1 hb2
  clear hg1 hB1 hb2
  cases b with
  | true =>
    go_wp2
    go_ret
    exact ⟨rfl, hB2⟩
  | false =>
  go_wp2_with ((with_reducible refine ld23 w.heap.size F ?_ HS.out hg2 ?_); exact rfl)
  refine (hF.build _).mono ?_
  rintro e W3 ⟨C, rfl, hC, hb3⟩
  have hg3 := kept hb3 hg2
  have hB3 := below_trans hB2 hb3
  clear hg2 hB2 hb3
  have c15 := cell_in hg3 hF.fnet
  have c17 := cell_in hg3 hF.fact
  have hlt := lt_of_heap hg3
  have Hg3 : Hid (W3.heap[w.heap.size]? = some (.cells F 23)) := hg3
  clear hg3
  go_wp2_with ((with_reducible refine st33n W3.heap.size C W3 zero33 ?_ ?_ ?_ rfl ?_ hC.size hC.one ?_); exact rfl; exact rfl; exact rfl; exact rfl)
  go_quiet ((go_at_call 8; exact Calls.quiet_of_same (level_any _ _)))
  have hgC : ((W3.alloc (.cells C 33)).drewN nq).heap[W3.heap.size]? = some (.cells C 33) := heap_alloc_new W3 _
  have hgF : ((W3.alloc (.cells C 33)).drewN nq).heap[w.heap.size]? = some (.cells F 23) := kept (below_drewN (below_new W3 _) nq) Hg3.out
  have hB4 : Below w.heap.size w ((W3.alloc (.cells C 33)).drewN nq) := below_drewN (below_trans hB3 (below_new W3 _)) nq
  generalize (W3.alloc (.cells C 33)).drewN nq = W4 at *
  clear c15 c17 hB3 Hg3
  go_wp2_with (first | ((with_reducible refine ld33 W3.heap.size C ?_ hC.size hgC ?_); exact rfl) | (go_at_call 9; refine (toward_same _ _).mono ?_; rintro e w' ⟨rfl, rfl⟩))
  refine (due_val hC true { data := #[] } rfl _).mono ?_
  rintro e W5 ⟨rfl, hb5⟩
  have hgC5 := kept hb5 hgC
  have hgF5 := kept hb5 hgF
  have hB5 := below_trans hB4 hb5
  clear hgC hgF hB4 hb5
  go_wp2_with ((with_reducible refine ld33 W3.heap.size C ?_ hC.size hgC5 ?_); exact rfl)
  refine (apply_none hC _).mono ?_
  rintro e W6 ⟨C2, rfl, hC2, hb6⟩
  have hgF6 := kept (below_new W6 (.cells C2 33)) (kept hb6 hgF5)
  have hB6 := below_trans (below_trans hB5 hb6) (below_new W6 (.cells C2 33))
  have hgC6 : (W6.alloc (.cells C2 33)).heap[W6.heap.size]? = some (.cells C2 33) := heap_alloc_new W6 _
  clear hgC5 hgF5 hB5 hb6
  go_wp2_with (first | ((with_reducible refine st33n W6.heap.size C2 W6 zero33 ?_ ?_ ?_ rfl ?_ hC2.size hC2.one ?_); exact rfl; exact rfl; exact rfl; exact rfl) | ((with_reducible refine ld33 W6.heap.size C2 ?_ hC2.size hgC6 ?_); exact rfl))
  refine (due_val hC2 true { data := #[] } rfl _).mono ?_
  rintro e W7 ⟨rfl, hb7⟩
  have hgC7 := kept hb7 hgC6
  have c17 := cell_in (kept hb7 hgF6) hF.fact
  have hlt7 := lt_of_heap (kept hb7 hgF6)
  have hB7 := below_trans hB6 hb7
  clear hgC6 hgF6 hB6 hb7 hlt
  go_wp2_with (first | ((with_reducible refine ld33g W6.heap.size C2 ?_ ?_ hC2.size hgC7 ?_); exact rfl; exact rfl) | (go_at_call 12; refine (stopped_any hC2 _).mono ?_; rintro e w' ⟨rfl, rfl⟩))
  go_ret
  exact ⟨rfl, hB7⟩

set_option maxHeartbeats 2000000 in
theorem settle_tfx (F : Array Value) (net : Int) (w : World) (hF : Fields F net false) (n0 : (net == 0) = false) (n1 : (net == 1) = false) :
    Calls Try.prog 3 #[.agg F, .bool true] w fun e w' => e = .returned (.bool true) ∧ Below w.heap.size w w' := by
  have hg0 : (w.alloc (.cells F 23)).heap[w.heap.size]? = some (.cells F 23) := heap_alloc_new w _
  have hb0 : Below w.heap.size w (w.alloc (.cells F 23)) := below_new _ _
  have hS := hF.size
  have HS : Hid (F.size = 18) := hS
  clear hS
  go_enter Try.func3, Try.ntmps3
  go_wp2_with ((with_reducible refine ld23 w.heap.size F ?_ HS.out hg0 ?_); exact rfl)
  refine (hF.b5 true _).mono ?_
  rintro e W1 ⟨⟨b, rfl⟩, hb1⟩
  have hg1 := kept hb1 hg0
  have hB1 := below_trans hb0 hb1
  clear hg0 hb0 hb1
  cases b with
  | false =>
    go_wp2
    go_ret
    exact ⟨rfl, hB1⟩
  | true =>
  go_wp2_with ((with_reducible refine ld23 w.heap.size F ?_ HS.out hg1 ?_); exact rfl)
  refine (hF.b6 _).mono ?_
  rintro e W2 ⟨⟨b, rfl⟩, hb2⟩
  have hg2 := kept hb2 hg1
  have hB2 := below_trans hB1 hb2
  clear hg1 hB1 hb2
  cases b with
  | true =>
    go_wp2
    go_ret
    exact ⟨rfl, hB2⟩
  | false =>
  go_wp2_with ((with_reducible refine ld23 w.heap.size F ?_ HS.out hg2 ?_); exact rfl)
  refine (hF.build _).mono ?_
  rintro e W3 ⟨C, rfl, hC, hb3⟩
  have hg3 := kept hb3 hg2
  have hB3 := below_trans hB2 hb3
  clear hg2 hB2 hb3
  have c15 := cell_in hg3 hF.fnet
  have c17 := cell_in hg3 hF.fact
  have hlt := lt_of_heap hg3
  have Hg3 : Hid (W3.heap[w.heap.size]? = some (.cells F 23)) := hg3
  clear hg3
  go_wp2_with ((with_reducible refine st33n W3.heap.size C W3 zero33 ?_ ?_ ?_ rfl ?_ hC.size hC.one ?_); exact rfl; exact rfl; exact rfl; exact rfl)
  go_quiet ((go_at_call 8; exact Calls.quiet_of_same (level_any _ _)))
  have hgC : ((W3.alloc (.cells C 33)).drewN nq).heap[W3.heap.size]? = some (.cells C 33) := heap_alloc_new W3 _
  have hgF : ((W3.alloc (.cells C 33)).drewN nq).heap[w.heap.size]? = some (.cells F 23) := kept (below_drewN (below_new W3 _) nq) Hg3.out
  have hB4 : Below w.heap.size w ((W3.alloc (.cells C 33)).drewN nq) := below_drewN (below_trans hB3 (below_new W3 _)) nq
  generalize (W3.alloc (.cells C 33)).drewN nq = W4 at *
  clear c15 c17 hB3 Hg3
  go_wp2_with (first | ((with_reducible refine ld33 W3.heap.size C ?_ hC.size hgC ?_); exact rfl) | (go_at_call 9; refine (toward_same _ _).mono ?_; rintro e w' ⟨rfl, rfl⟩))
  refine (due_val hC true { data := #[] } (due_x n0 n1) _).mono ?_
  rintro e W5 ⟨rfl, hb5⟩
  have hgC5 := kept hb5 hgC
  have hgF5 := kept hb5 hgF
  have hB5 := below_trans hB4 hb5
  clear hgC hgF hB4 hb5
  go_wp2_with ((with_reducible refine ld33 W3.heap.size C ?_ hC.size hgC5 ?_); exact rfl)
  refine (apply_none hC _).mono ?_
  rintro e W6 ⟨C2, rfl, hC2, hb6⟩
  have hgF6 := kept (below_new W6 (.cells C2 33)) (kept hb6 hgF5)
  have hB6 := below_trans (below_trans hB5 hb6) (below_new W6 (.cells C2 33))
  have hgC6 : (W6.alloc (.cells C2 33)).heap[W6.heap.size]? = some (.cells C2 33) := heap_alloc_new W6 _
  clear hgC5 hgF5 hB5 hb6
  go_wp2_with (first | ((with_reducible refine st33n W6.heap.size C2 W6 zero33 ?_ ?_ ?_ rfl ?_ hC2.size hC2.one ?_); exact rfl; exact rfl; exact rfl; exact rfl) | ((with_reducible refine ld33 W6.heap.size C2 ?_ hC2.size hgC6 ?_); exact rfl))
  refine (due_val hC2 true { data := #[] } (due_x n0 n1) _).mono ?_
  rintro e W7 ⟨rfl, hb7⟩
  have hgC7 := kept hb7 hgC6
  have c17 := cell_in (kept hb7 hgF6) hF.fact
  have hlt7 := lt_of_heap (kept hb7 hgF6)
  have hB7 := below_trans hB6 hb7
  clear hgC6 hgF6 hB6 hb7 hlt
  go_wp2_with (first | ((with_reducible refine ld33g W6.heap.size C2 ?_ ?_ hC2.size hgC7 ?_); exact rfl; exact rfl) | (go_at_call 12; refine (stopped_any hC2 _).mono ?_; rintro e w' ⟨rfl, rfl⟩))
  go_ret
  exact ⟨rfl, hB7⟩

set_option maxHeartbeats 2000000 in
theorem settle_ft0 (F : Array Value) (w : World) (hF : Fields F 0 true) :
    Calls Try.prog 3 #[.agg F, .bool false] w fun e w' => e = .returned (.bool true) ∧ Below w.heap.size w w' := by
  have hg0 : (w.alloc (.cells F 23)).heap[w.heap.size]? = some (.cells F 23) := heap_alloc_new w _
  have hb0 : Below w.heap.size w (w.alloc (.cells F 23)) := below_new _ _
  have hS := hF.size
  have HS : Hid (F.size = 18) := hS
  clear hS
  go_enter Try.func3, Try.ntmps3
  go_wp2_with ((with_reducible refine ld23 w.heap.size F ?_ HS.out hg0 ?_); exact rfl)
  refine (hF.b5 false _).mono ?_
  rintro e W1 ⟨⟨b, rfl⟩, hb1⟩
  have hg1 := kept hb1 hg0
  have hB1 := below_trans hb0 hb1
  clear hg0 hb0 hb1
  cases b with
  | false =>
    go_wp2
    go_ret
    exact ⟨rfl, hB1⟩
  | true =>
  go_wp2_with ((with_reducible refine ld23 w.heap.size F ?_ HS.out hg1 ?_); exact rfl)
  refine (hF.b6 _).mono ?_
  rintro e W2 ⟨⟨b, rfl⟩, hb2⟩
  have hg2 := kept hb2 hg1
  have hB2 := below_trans hB1 hb2
  clear hg1 hB1 hb2
  cases b with
  | true =>
    go_wp2
    go_ret
    exact ⟨rfl, hB2⟩
  | false =>
  go_wp2_with ((with_reducible refine ld23 w.heap.size F ?_ HS.out hg2 ?_); exact rfl)
  refine (hF.build _).mono ?_
  rintro e W3 ⟨C, rfl, hC, hb3⟩
  have hg3 := kept hb3 hg2
  have hB3 := below_trans hB2 hb3
  clear hg2 hB2 hb3
  have c15 := cell_in hg3 hF.fnet
  have c17 := cell_in hg3 hF.fact
  have hlt := lt_of_heap hg3
  have Hg3 : Hid (W3.heap[w.heap.size]? = some (.cells F 23)) := hg3
  clear hg3
  go_wp2_with ((with_reducible refine st33n W3.heap.size C W3 zero33 ?_ ?_ ?_ rfl ?_ hC.size hC.one ?_); exact rfl; exact rfl; exact rfl; exact rfl)
  go_quiet ((go_at_call 8; exact Calls.quiet_of_same (level_any _ _)))
  have hgC : ((W3.alloc (.cells C 33)).drewN nq).heap[W3.heap.size]? = some (.cells C 33) := heap_alloc_new W3 _
  have hgF : ((W3.alloc (.cells C 33)).drewN nq).heap[w.heap.size]? = some (.cells F 23) := kept (below_drewN (below_new W3 _) nq) Hg3.out
  have hB4 : Below w.heap.size w ((W3.alloc (.cells C 33)).drewN nq) := below_drewN (below_trans hB3 (below_new W3 _)) nq
  generalize (W3.alloc (.cells C 33)).drewN nq = W4 at *
  clear c15 c17 hB3 Hg3
  go_wp2_with (first | ((with_reducible refine ld33 W3.heap.size C ?_ hC.size hgC ?_); exact rfl) | (go_at_call 9; refine (toward_same _ _).mono ?_; rintro e w' ⟨rfl, rfl⟩))
  refine (due_val hC false { data := #[] } rfl _).mono ?_
  rintro e W5 ⟨rfl, hb5⟩
  have hgC5 := kept hb5 hgC
  have hgF5 := kept hb5 hgF
  have hB5 := below_trans hB4 hb5
  clear hgC hgF hB4 hb5
  go_wp2_with ((with_reducible refine ld33 W3.heap.size C ?_ hC.size hgC5 ?_); exact rfl)
  refine (apply_none hC _).mono ?_
  rintro e W6 ⟨C2, rfl, hC2, hb6⟩
  have hgF6 := kept (below_new W6 (.cells C2 33)) (kept hb6 hgF5)
  have hB6 := below_trans (below_trans hB5 hb6) (below_new W6 (.cells C2 33))
  have hgC6 : (W6.alloc (.cells C2 33)).heap[W6.heap.size]? = some (.cells C2 33) := heap_alloc_new W6 _
  clear hgC5 hgF5 hB5 hb6
  go_wp2_with (first | ((with_reducible refine st33n W6.heap.size C2 W6 zero33 ?_ ?_ ?_ rfl ?_ hC2.size hC2.one ?_); exact rfl; exact rfl; exact rfl; exact rfl) | ((with_reducible refine ld33 W6.heap.size C2 ?_ hC2.size hgC6 ?_); exact rfl))
  refine (due_val hC2 false { data := #[] } rfl _).mono ?_
  rintro e W7 ⟨rfl, hb7⟩
  have hgC7 := kept hb7 hgC6
  have c17 := cell_in (kept hb7 hgF6) hF.fact
  have hlt7 := lt_of_heap (kept hb7 hgF6)
  have hB7 := below_trans hB6 hb7
  clear hgC6 hgF6 hB6 hb7 hlt
  go_wp2_with (first | ((with_reducible refine ld33g W6.heap.size C2 ?_ ?_ hC2.size hgC7 ?_); exact rfl; exact rfl) | (go_at_call 12; refine (stopped_any hC2 _).mono ?_; rintro e w' ⟨rfl, rfl⟩))
  go_ret
  exact ⟨rfl, hB7⟩

set_option maxHeartbeats 2000000 in
theorem settle_ft1 (F : Array Value) (w : World) (hF : Fields F 1 true) :
    Calls Try.prog 3 #[.agg F, .bool false] w fun e w' => e = .returned (.bool true) ∧ Below w.heap.size w w' := by
  have hg0 : (w.alloc (.cells F 23)).heap[w.heap.size]? = some (.cells F 23) := heap_alloc_new w _
  have hb0 : Below w.heap.size w (w.alloc (.cells F 23)) := below_new _ _
  have hS := hF.size
  have HS : Hid (F.size = 18) := hS
  clear hS
  go_enter Try.func3, Try.ntmps3
  go_wp2_with ((with_reducible refine ld23 w.heap.size F ?_ HS.out hg0 ?_); exact rfl)
  refine (hF.b5 false _).mono ?_
  rintro e W1 ⟨⟨b, rfl⟩, hb1⟩
  have hg1 := kept hb1 hg0
  have hB1 := below_trans hb0 hb1
  clear hg0 hb0 hb1
  cases b with
  | false =>
    go_wp2
    go_ret
    exact ⟨rfl, hB1⟩
  | true =>
  go_wp2_with ((with_reducible refine ld23 w.heap.size F ?_ HS.out hg1 ?_); exact rfl)
  refine (hF.b6 _).mono ?_
  rintro e W2 ⟨⟨b, rfl⟩, hb2⟩
  have hg2 := kept hb2 hg1
  have hB2 := below_trans hB1 hb2
  clear hg1 hB1 hb2
  cases b with
  | true =>
    go_wp2
    go_ret
    exact ⟨rfl, hB2⟩
  | false =>
  go_wp2_with ((with_reducible refine ld23 w.heap.size F ?_ HS.out hg2 ?_); exact rfl)
  refine (hF.build _).mono ?_
  rintro e W3 ⟨C, rfl, hC, hb3⟩
  have hg3 := kept hb3 hg2
  have hB3 := below_trans hB2 hb3
  clear hg2 hB2 hb3
  have c15 := cell_in hg3 hF.fnet
  have c17 := cell_in hg3 hF.fact
  have hlt := lt_of_heap hg3
  have Hg3 : Hid (W3.heap[w.heap.size]? = some (.cells F 23)) := hg3
  clear hg3
  go_wp2_with ((with_reducible refine st33n W3.heap.size C W3 zero33 ?_ ?_ ?_ rfl ?_ hC.size hC.one ?_); exact rfl; exact rfl; exact rfl; exact rfl)
  go_quiet ((go_at_call 8; exact Calls.quiet_of_same (level_any _ _)))
  have hgC : ((W3.alloc (.cells C 33)).drewN nq).heap[W3.heap.size]? = some (.cells C 33) := heap_alloc_new W3 _
  have hgF : ((W3.alloc (.cells C 33)).drewN nq).heap[w.heap.size]? = some (.cells F 23) := kept (below_drewN (below_new W3 _) nq) Hg3.out
  have hB4 : Below w.heap.size w ((W3.alloc (.cells C 33)).drewN nq) := below_drewN (below_trans hB3 (below_new W3 _)) nq
  generalize (W3.alloc (.cells C 33)).drewN nq = W4 at *
  clear c15 c17 hB3 Hg3
  go_wp2_with (first | ((with_reducible refine ld33 W3.heap.size C ?_ hC.size hgC ?_); exact rfl) | (go_at_call 9; refine (toward_same _ _).mono ?_; rintro e w' ⟨rfl, rfl⟩))
  refine (due_val hC false { data := #[115, 116, 111, 112] } rfl _).mono ?_
  rintro e W5 ⟨rfl, hb5⟩
  have hgC5 := kept hb5 hgC
  have hgF5 := kept hb5 hgF
  have hB5 := below_trans hB4 hb5
  clear hgC hgF hB4 hb5
  go_wp2_with ((with_reducible refine ld33 W3.heap.size C ?_ hC.size hgC5 ?_); exact rfl)
  refine (apply_stop hC _).mono ?_
  rintro e W6 ⟨C2, rfl, hC2, hb6⟩
  have hgF6 := kept (below_new W6 (.cells C2 33)) (kept hb6 hgF5)
  have hB6 := below_trans (below_trans hB5 hb6) (below_new W6 (.cells C2 33))
  have hgC6 : (W6.alloc (.cells C2 33)).heap[W6.heap.size]? = some (.cells C2 33) := heap_alloc_new W6 _
  clear hgC5 hgF5 hB5 hb6
  go_wp2_with (first | ((with_reducible refine st33n W6.heap.size C2 W6 zero33 ?_ ?_ ?_ rfl ?_ hC2.size hC2.one ?_); exact rfl; exact rfl; exact rfl; exact rfl) | ((with_reducible refine ld33 W6.heap.size C2 ?_ hC2.size hgC6 ?_); exact rfl))
  refine (due_val hC2 false { data := #[] } rfl _).mono ?_
  rintro e W7 ⟨rfl, hb7⟩
  have hgC7 := kept hb7 hgC6
  have c17 := cell_in (kept hb7 hgF6) hF.fact
  have hlt7 := lt_of_heap (kept hb7 hgF6)
  have hB7 := below_trans hB6 hb7
  clear hgC6 hgF6 hB6 hb7 hlt
  go_wp2_with (first | ((with_reducible refine ld33g W6.heap.size C2 ?_ ?_ hC2.size hgC7 ?_); exact rfl; exact rfl) | (go_at_call 12; refine (stopped_any hC2 _).mono ?_; rintro e w' ⟨rfl, rfl⟩))
  go_ret
  exact ⟨rfl, below_trans hB7 (below_new _ _)⟩

set_option maxHeartbeats 2000000 in
theorem settle_ftx (F : Array Value) (net : Int) (w : World) (hF : Fields F net true) (n0 : (net == 0) = false) (n1 : (net == 1) = false) :
    Calls Try.prog 3 #[.agg F, .bool false] w fun e w' => e = .returned (.bool true) ∧ Below w.heap.size w w' := by
  have hg0 : (w.alloc (.cells F 23)).heap[w.heap.size]? = some (.cells F 23) := heap_alloc_new w _
  have hb0 : Below w.heap.size w (w.alloc (.cells F 23)) := below_new _ _
  have hS := hF.size
  have HS : Hid (F.size = 18) := hS
  clear hS
  go_enter Try.func3, Try.ntmps3
  go_wp2_with ((with_reducible refine ld23 w.heap.size F ?_ HS.out hg0 ?_); exact rfl)
  refine (hF.b5 false _).mono ?_
  rintro e W1 ⟨⟨b, rfl⟩, hb1⟩
  have hg1 := kept hb1 hg0
  have hB1 := below_trans hb0 hb1
  clear hg0 hb0 hb1
  cases b with
  | false =>
    go_wp2
    go_ret
    exact ⟨rfl, hB1⟩
  | true =>
  go_wp2_with ((with_reducible refine ld23 w.heap.size F ?_ HS.out hg1 ?_); exact rfl)
  refine (hF.b6 _).mono ?_
  rintro e W2 ⟨⟨b, rfl⟩, hb2⟩
  have hg2 := kept hb2 hg1
  have hB2 := below_trans hB1 hb2
  clear hg1 hB1 hb2
  cases b with
  | true =>
    go_wp2
    go_ret
    exact ⟨rfl, hB2⟩
  | false =>
  go_wp2_with ((with_reducible refine ld23 w.heap.size F ?_ HS.out hg2 ?_); exact rfl)
  refine (hF.build _).mono ?_
  rintro e W3 ⟨C, rfl, hC, hb3⟩
  have hg3 := kept hb3 hg2
  have hB3 := below_trans hB2 hb3
  clear hg2 hB2 hb3
  have c15 := cell_in hg3 hF.fnet
  have c17 := cell_in hg3 hF.fact
  have hlt := lt_of_heap hg3
  have Hg3 : Hid (W3.heap[w.heap.size]? = some (.cells F 23)) := hg3
  clear hg3
  go_wp2_with ((with_reducible refine st33n W3.heap.size C W3 zero33 ?_ ?_ ?_ rfl ?_ hC.size hC.one ?_); exact rfl; exact rfl; exact rfl; exact rfl)
  go_quiet ((go_at_call 8; exact Calls.quiet_of_same (level_any _ _)))
  have hgC : ((W3.alloc (.cells C 33)).drewN nq).heap[W3.heap.size]? = some (.cells C 33) := heap_alloc_new W3 _
  have hgF : ((W3.alloc (.cells C 33)).drewN nq).heap[w.heap.size]? = some (.cells F 23) := kept (below_drewN (below_new W3 _) nq) Hg3.out
  have hB4 : Below w.heap.size w ((W3.alloc (.cells C 33)).drewN nq) := below_drewN (below_trans hB3 (below_new W3 _)) nq
  generalize (W3.alloc (.cells C 33)).drewN nq = W4 at *
  clear c15 c17 hB3 Hg3
  go_wp2_with (first | ((with_reducible refine ld33 W3.heap.size C ?_ hC.size hgC ?_); exact rfl) | (go_at_call 9; refine (toward_same _ _).mono ?_; rintro e w' ⟨rfl, rfl⟩))
  refine (due_val hC false { data := #[] } (due_x n0 n1) _).mono ?_
  rintro e W5 ⟨rfl, hb5⟩
  have hgC5 := kept hb5 hgC
  have hgF5 := kept hb5 hgF
  have hB5 := below_trans hB4 hb5
  clear hgC hgF hB4 hb5
  go_wp2_with ((with_reducible refine ld33 W3.heap.size C ?_ hC.size hgC5 ?_); exact rfl)
  refine (apply_none hC _).mono ?_
  rintro e W6 ⟨C2, rfl, hC2, hb6⟩
  have hgF6 := kept (below_new W6 (.cells C2 33)) (kept hb6 hgF5)
  have hB6 := below_trans (below_trans hB5 hb6) (below_new W6 (.cells C2 33))
  have hgC6 : (W6.alloc (.cells C2 33)).heap[W6.heap.size]? = some (.cells C2 33) := heap_alloc_new W6 _
  clear hgC5 hgF5 hB5 hb6
  go_wp2_with (first | ((with_reducible refine st33n W6.heap.size C2 W6 zero33 ?_ ?_ ?_ rfl ?_ hC2.size hC2.one ?_); exact rfl; exact rfl; exact rfl; exact rfl) | ((with_reducible refine ld33 W6.heap.size C2 ?_ hC2.size hgC6 ?_); exact rfl))
  refine (due_val hC2 false { data := #[] } (due_x n0 n1) _).mono ?_
  rintro e W7 ⟨rfl, hb7⟩
  have hgC7 := kept hb7 hgC6
  have c17 := cell_in (kept hb7 hgF6) hF.fact
  have hlt7 := lt_of_heap (kept hb7 hgF6)
  have hB7 := below_trans hB6 hb7
  clear hgC6 hgF6 hB6 hb7 hlt
  go_wp2_with (first | ((with_reducible refine ld33g W6.heap.size C2 ?_ ?_ hC2.size hgC7 ?_); exact rfl; exact rfl) | (go_at_call 12; refine (stopped_any hC2 _).mono ?_; rintro e w' ⟨rfl, rfl⟩))
  go_ret
  exact ⟨rfl, hB7⟩

set_option maxHeartbeats 2000000 in
theorem settle_ff0 (F : Array Value) (w : World) (hF : Fields F 0 false) :
    Calls Try.prog 3 #[.agg F, .bool false] w fun e w' => e = .returned (.bool true) ∧ Below w.heap.size w w' := by
  have hg0 : (w.alloc (.cells F 23)).heap[w.heap.size]? = some (.cells F 23) := heap_alloc_new w _
  have hb0 : Below w.heap.size w (w.alloc (.cells F 23)) := below_new _ _
  have hS := hF.size
  have HS : Hid (F.size = 18) := hS
  clear hS
  go_enter Try.func3, Try.ntmps3
  go_wp2_with ((with_reducible refine ld23 w.heap.size F ?_ HS.out hg0 ?_); exact rfl)
  refine (hF.b5 false _).mono ?_
  rintro e W1 ⟨⟨b, rfl⟩, hb1⟩
  have hg1 := kept hb1 hg0
  have hB1 := below_trans hb0 hb1
  clear hg0 hb0 hb1
  cases b with
  | false =>
    go_wp2
    go_ret
    exact ⟨rfl, hB1⟩
  | true =>
  go_wp2_with ((with_reducible refine ld23 w.heap.size F ?_ HS.out hg1 ?_); exact rfl)
  refine (hF.b6 _).mono ?_
  rintro e W2 ⟨⟨b, rfl⟩, hb2⟩
  have hg2 := kept hb2 hg1
  have hB2 := below_trans hB1 hb2
  clear hg1 hB1 hb2
  cases b with
  | true =>
    go_wp2
    go_ret
    exact ⟨rfl, hB2⟩
  | false =>
  go_wp2_with ((with_reducible refine ld23 w.heap.size F ?_ HS.out hg2 ?_); exact rfl)
  refine (hF.build _).mono ?_
  rintro e W3 ⟨C, rfl, hC, hb3⟩
  have hg3 := kept hb3 hg2
  have hB3 := below_trans hB2 hb3
  clear hg2 hB2 hb3
  have c15 := cell_in hg3 hF.fnet
  have c17 := cell_in hg3 hF.fact
  have hlt := lt_of_heap hg3
  have Hg3 : Hid (W3.heap[w.heap.size]? = some (.cells F 23)) := hg3
  clear hg3
  go_wp2_with ((with_reducible refine st33n W3.heap.size C W3 zero33 ?_ ?_ ?_ rfl ?_ hC.size hC.one ?_); exact rfl; exact rfl; exact rfl; exact rfl)
  go_quiet ((go_at_call 8; exact Calls.quiet_of_same (level_any _ _)))
  have hgC : ((W3.alloc (.cells C 33)).drewN nq).heap[W3.heap.size]? = some (.cells C 33) := heap_alloc_new W3 _
  have hgF : ((W3.alloc (.cells C 33)).drewN nq).heap[w.heap.size]? = some (.cells F 23) := kept (below_drewN (below_new W3 _) nq) Hg3.out
  have hB4 : Below w.heap.size w ((W3.alloc (.cells C 33)).drewN nq) := below_drewN (below_trans hB3 (below_new W3 _)) nq
  generalize (W3.alloc (.cells C 33)).drewN nq = W4 at *
  clear c15 c17 hB3 Hg3
  go_wp2_with (first | ((with_reducible refine ld33 W3.heap.size C ?_ hC.size hgC ?_); exact rfl) | (go_at_call 9; refine (toward_same _ _).mono ?_; rintro e w' ⟨rfl, rfl⟩))
  refine (due_val hC false { data := #[] } rfl _).mono ?_
  rintro e W5 ⟨rfl, hb5⟩
  have hgC5 := kept hb5 hgC
  have hgF5 := kept hb5 hgF
  have hB5 := below_trans hB4 hb5
  clear hgC hgF hB4 hb5
  go_wp2_with ((with_reducible refine ld33 W3.heap.size C ?_ hC.size hgC5 ?_); exact rfl)
  refine (apply_none hC _).mono ?_
  rintro e W6 ⟨C2, rfl, hC2, hb6⟩
  have hgF6 := kept (below_new W6 (.cells C2 33)) (kept hb6 hgF5)
  have hB6 := below_trans (below_trans hB5 hb6) (below_new W6 (.cells C2 33))
  have hgC6 : (W6.alloc (.cells C2 33)).heap[W6.heap.size]? = some (.cells C2 33) := heap_alloc_new W6 _
  clear hgC5 hgF5 hB5 hb6
  go_wp2_with (first | ((with_reducible refine st33n W6.heap.size C2 W6 zero33 ?_ ?_ ?_ rfl ?_ hC2.size hC2.one ?_); exact rfl; exact rfl; exact rfl; exact rfl) | ((with_reducible refine ld33 W6.heap.size C2 ?_ hC2.size hgC6 ?_); exact rfl))
  refine (due_val hC2 false { data := #[] } rfl _).mono ?_
  rintro e W7 ⟨rfl, hb7⟩
  have hgC7 := kept hb7 hgC6
  have c17 := cell_in (kept hb7 hgF6) hF.fact
  have hlt7 := lt_of_heap (kept hb7 hgF6)
  have hB7 := below_trans hB6 hb7
  clear hgC6 hgF6 hB6 hb7 hlt
  go_wp2_with (first | ((with_reducible refine ld33g W6.heap.size C2 ?_ ?_ hC2.size hgC7 ?_); exact rfl; exact rfl) | (go_at_call 12; refine (stopped_any hC2 _).mono ?_; rintro e w' ⟨rfl, rfl⟩))
  go_ret
  exact ⟨rfl, hB7⟩

set_option maxHeartbeats 2000000 in
theorem settle_ff1 (F : Array Value) (w : World) (hF : Fields F 1 false) :
    Calls Try.prog 3 #[.agg F, .bool false] w fun e w' => e = .returned (.bool true) ∧ Below w.heap.size w w' := by
  have hg0 : (w.alloc (.cells F 23)).heap[w.heap.size]? = some (.cells F 23) := heap_alloc_new w _
  have hb0 : Below w.heap.size w (w.alloc (.cells F 23)) := below_new _ _
  have hS := hF.size
  have HS : Hid (F.size = 18) := hS
  clear hS
  go_enter Try.func3, Try.ntmps3
  go_wp2_with ((with_reducible refine ld23 w.heap.size F ?_ HS.out hg0 ?_); exact rfl)
  refine (hF.b5 false _).mono ?_
  rintro e W1 ⟨⟨b, rfl⟩, hb1⟩
  have hg1 := kept hb1 hg0
  have hB1 := below_trans hb0 hb1
  clear hg0 hb0 hb1
  cases b with
  | false =>
    go_wp2
    go_ret
    exact ⟨rfl, hB1⟩
  | true =>
  go_wp2_with ((with_reducible refine ld23 w.heap.size F ?_ HS.out hg1 ?_); exact rfl)
  refine (hF.b6 _).mono ?_
  rintro e W2 ⟨⟨b, rfl⟩, hb2⟩
  have hg2 := kept hb2 hg1
  have hB2 := below_trans hB1 hb2
  clear hg1 hB1 hb2
  cases b with
  | true =>
    go_wp2
    go_ret
    exact ⟨rfl, hB2⟩
  | false =>
  go_wp2_with ((with_reducible refine ld23 w.heap.size F ?_ HS.out hg2 ?_); exact rfl)
  refine (hF.build _).mono ?_
  rintro e W3 ⟨C, rfl, hC, hb3⟩
  have hg3 := kept hb3 hg2
  have hB3 := below_trans hB2 hb3
  clear hg2 hB2 hb3
  have c15 := cell_in hg3 hF.fnet
  have c17 := cell_in hg3 hF.fact
  have hlt := lt_of_heap hg3
  have Hg3 : Hid (W3.heap[w.heap.size]? = some (.cells F 23)) := hg3
  clear hg3
  go_wp2_with ((with_reducible refine st33n W3.heap.size C W3 zero33 ?_ ?_ ?_ rfl ?_ hC.size hC.one ?_); exact rfl; exact rfl; exact rfl; exact rfl)
  go_quiet ((go_at_call 8; exact Calls.quiet_of_same (level_any _ _)))
  have hgC : ((W3.alloc (.cells C 33)).drewN nq).heap[W3.heap.size]? = some (.cells C 33) := heap_alloc_new W3 _
  have hgF : ((W3.alloc (.cells C 33)).drewN nq).heap[w.heap.size]? = some (.cells F 23) := kept (below_drewN (below_new W3 _) nq) Hg3.out
  have hB4 : Below w.heap.size w ((W3.alloc (.cells C 33)).drewN nq) := below_drewN (below_trans hB3 (below_new W3 _)) nq
  generalize (W3.alloc (.cells C 33)).drewN nq = W4 at *
  clear c15 c17 hB3 Hg3
  go_wp2_with (first | ((with_reducible refine ld33 W3.heap.size C ?_ hC.size hgC ?_); exact rfl) | (go_at_call 9; refine (toward_same _ _).mono ?_; rintro e w' ⟨rfl, rfl⟩))
  refine (due_val hC false { data := #[115, 116, 111, 112] } rfl _).mono ?_
  rintro e W5 ⟨rfl, hb5⟩
  have hgC5 := kept hb5 hgC
  have hgF5 := kept hb5 hgF
  have hB5 := below_trans hB4 hb5
  clear hgC hgF hB4 hb5
  go_wp2_with ((with_reducible refine ld33 W3.heap.size C ?_ hC.size hgC5 ?_); exact rfl)
  refine (apply_stop hC _).mono ?_
  rintro e W6 ⟨C2, rfl, hC2, hb6⟩
  have hgF6 := kept (below_new W6 (.cells C2 33)) (kept hb6 hgF5)
  have hB6 := below_trans (below_trans hB5 hb6) (below_new W6 (.cells C2 33))
  have hgC6 : (W6.alloc (.cells C2 33)).heap[W6.heap.size]? = some (.cells C2 33) := heap_alloc_new W6 _
  clear hgC5 hgF5 hB5 hb6
  go_wp2_with (first | ((with_reducible refine st33n W6.heap.size C2 W6 zero33 ?_ ?_ ?_ rfl ?_ hC2.size hC2.one ?_); exact rfl; exact rfl; exact rfl; exact rfl) | ((with_reducible refine ld33 W6.heap.size C2 ?_ hC2.size hgC6 ?_); exact rfl))
  refine (due_val hC2 false { data := #[] } rfl _).mono ?_
  rintro e W7 ⟨rfl, hb7⟩
  have hgC7 := kept hb7 hgC6
  have c17 := cell_in (kept hb7 hgF6) hF.fact
  have hlt7 := lt_of_heap (kept hb7 hgF6)
  have hB7 := below_trans hB6 hb7
  clear hgC6 hgF6 hB6 hb7 hlt
  go_wp2_with (first | ((with_reducible refine ld33g W6.heap.size C2 ?_ ?_ hC2.size hgC7 ?_); exact rfl; exact rfl) | (go_at_call 12; refine (stopped_any hC2 _).mono ?_; rintro e w' ⟨rfl, rfl⟩))
  go_ret
  exact ⟨rfl, below_trans hB7 (below_new _ _)⟩

set_option maxHeartbeats 2000000 in
theorem settle_ffx (F : Array Value) (net : Int) (w : World) (hF : Fields F net false) (n0 : (net == 0) = false) (n1 : (net == 1) = false) :
    Calls Try.prog 3 #[.agg F, .bool false] w fun e w' => e = .returned (.bool true) ∧ Below w.heap.size w w' := by
  have hg0 : (w.alloc (.cells F 23)).heap[w.heap.size]? = some (.cells F 23) := heap_alloc_new w _
  have hb0 : Below w.heap.size w (w.alloc (.cells F 23)) := below_new _ _
  have hS := hF.size
  have HS : Hid (F.size = 18) := hS
  clear hS
  go_enter Try.func3, Try.ntmps3
  go_wp2_with ((with_reducible refine ld23 w.heap.size F ?_ HS.out hg0 ?_); exact rfl)
  refine (hF.b5 false _).mono ?_
  rintro e W1 ⟨⟨b, rfl⟩, hb1⟩
  have hg1 := kept hb1 hg0
  have hB1 := below_trans hb0 hb1
  clear hg0 hb0 hb1
  cases b with
  | false =>
    go_wp2
    go_ret
    exact ⟨rfl, hB1⟩
  | true =>
  go_wp2_with ((with_reducible refine ld23 w.heap.size F ?_ HS.out hg1 ?_); exact rfl)
  refine (hF.b6 _).mono ?_
  rintro e W2 ⟨⟨b, rfl⟩, hb2⟩
  have hg2 := kept hb2 hg1
  have hB2 := below_trans hB1 hb2
  clear hg1 hB1 hb2
  cases b with
  | true =>
    go_wp2
    go_ret
    exact ⟨rfl, hB2⟩
  | false =>
  go_wp2_with ((with_reducible refine ld23 w.heap.size F ?_ HS.out hg2 ?_); exact rfl)
  refine (hF.build _).mono ?_
  rintro e W3 ⟨C, rfl, hC, hb3⟩
  have hg3 := kept hb3 hg2
  have hB3 := below_trans hB2 hb3
  clear hg2 hB2 hb3
  have c15 := cell_in hg3 hF.fnet
  have c17 := cell_in hg3 hF.fact
  have hlt := lt_of_heap hg3
  have Hg3 : Hid (W3.heap[w.heap.size]? = some (.cells F 23)) := hg3
  clear hg3
  go_wp2_with ((with_reducible refine st33n W3.heap.size C W3 zero33 ?_ ?_ ?_ rfl ?_ hC.size hC.one ?_); exact rfl; exact rfl; exact rfl; exact rfl)
  go_quiet ((go_at_call 8; exact Calls.quiet_of_same (level_any _ _)))
  have hgC : ((W3.alloc (.cells C 33)).drewN nq).heap[W3.heap.size]? = some (.cells C 33) := heap_alloc_new W3 _
  have hgF : ((W3.alloc (.cells C 33)).drewN nq).heap[w.heap.size]? = some (.cells F 23) := kept (below_drewN (below_new W3 _) nq) Hg3.out
  have hB4 : Below w.heap.size w ((W3.alloc (.cells C 33)).drewN nq) := below_drewN (below_trans hB3 (below_new W3 _)) nq
  generalize (W3.alloc (.cells C 33)).drewN nq = W4 at *
  clear c15 c17 hB3 Hg3
  go_wp2_with (first | ((with_reducible refine ld33 W3.heap.size C ?_ hC.size hgC ?_); exact rfl) | (go_at_call 9; refine (toward_same _ _).mono ?_; rintro e w' ⟨rfl, rfl⟩))
  refine (due_val hC false { data := #[] } (due_x n0 n1) _).mono ?_
  rintro e W5 ⟨rfl, hb5⟩
  have hgC5 := kept hb5 hgC
  have hgF5 := kept hb5 hgF
  have hB5 := below_trans hB4 hb5
  clear hgC hgF hB4 hb5
  go_wp2_with ((with_reducible refine ld33 W3.heap.size C ?_ hC.size hgC5 ?_); exact rfl)
  refine (apply_none hC _).mono ?_
  rintro e W6 ⟨C2, rfl, hC2, hb6⟩
  have hgF6 := kept (below_new W6 (.cells C2 33)) (kept hb6 hgF5)
  have hB6 := below_trans (below_trans hB5 hb6) (below_new W6 (.cells C2 33))
  have hgC6 : (W6.alloc (.cells C2 33)).heap[W6.heap.size]? = some (.cells C2 33) := heap_alloc_new W6 _
  clear hgC5 hgF5 hB5 hb6
  go_wp2_with (first | ((with_reducible refine st33n W6.heap.size C2 W6 zero33 ?_ ?_ ?_ rfl ?_ hC2.size hC2.one ?_); exact rfl; exact rfl; exact rfl; exact rfl) | ((with_reducible refine ld33 W6.heap.size C2 ?_ hC2.size hgC6 ?_); exact rfl))
  refine (due_val hC2 false { data := #[] } (due_x n0 n1) _).mono ?_
  rintro e W7 ⟨rfl, hb7⟩
  have hgC7 := kept hb7 hgC6
  have c17 := cell_in (kept hb7 hgF6) hF.fact
  have hlt7 := lt_of_heap (kept hb7 hgF6)
  have hB7 := below_trans hB6 hb7
  clear hgC6 hgF6 hB6 hb7 hlt
  go_wp2_with (first | ((with_reducible refine ld33g W6.heap.size C2 ?_ ?_ hC2.size hgC7 ?_); exact rfl; exact rfl) | (go_at_call 12; refine (stopped_any hC2 _).mono ?_; rintro e w' ⟨rfl, rfl⟩))
  go_ret
  exact ⟨rfl, hB7⟩

theorem settle (F : Array Value) (net : Int) (act active : Bool) (w : World) (hF : Fields F net act) :
    Calls Try.prog 3 #[.agg F, .bool active] w fun e w' => e = .returned (.bool true) ∧ Below w.heap.size w w' := by
  by_cases h0 : net = 0
  · subst h0
    cases active <;> cases act
    · exact settle_ff0 F w hF
    · exact settle_ft0 F w hF
    · exact settle_tf0 F w hF
    · exact settle_tt0 F w hF
  · by_cases h1 : net = 1
    · subst h1
      cases active <;> cases act
      · exact settle_ff1 F w hF
      · exact settle_ft1 F w hF
      · exact settle_tf1 F w hF
      · exact settle_tt1 F w hF
    · have n0 : (net == 0) = false := beq_eq_false_iff_ne.2 h0
      have n1 : (net == 1) = false := beq_eq_false_iff_ne.2 h1
      cases active <;> cases act
      · exact settle_ffx F net w hF n0 n1
      · exact settle_ftx F net w hF n0 n1
      · exact settle_tfx F net w hF n0 n1
      · exact settle_ttx F net w hF n0 n1

end Go.Proofs.Qxb6628926a.Net
