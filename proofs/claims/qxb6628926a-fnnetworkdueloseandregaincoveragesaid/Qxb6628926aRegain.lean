/-
  THE WALK OF FnNetworkDueLoseAndRegainCoverage: twelve cases (the coverage, put to use or not, the status 0, 1 or another), one text made by program.
-/
import Derived.Test.Qxb6628926aSettle
import Derived.Deep.QuietTactic
import Derived.BigQuiet
import Derived.Deep.RegionHeld3
namespace Go.Proofs.Qxb6628926a.Net
open Go.RowKit

theorem level_same (b : Bool) (w : World) : Calls Try.prog 8 #[.bool b] w fun e w' => e = .returned (.int .i64 (if b then 1 else 0)) ∧ w = w' :=
  (level_any b w).mono fun _ _ h => ⟨h.1, h.2.symm⟩

theorem cells33 (w : World) (g : Nat) (cs : List Value) (hcs : cs.length = 21) (h : ∀ j v, cs[j]? = some v → w.cell? ⟨g, j, none⟩ = some v) :
    (loadCellsFrom ⟨g, 0, none⟩ 0 21 #[]).run Try.prog w = .ok cs.toArray w := by
  have := run_loadCells_list (P := Try.prog) w ⟨g, 0, none⟩ cs (fun j v hv => by rw [Addr.add_mid, Nat.zero_add]; exact h j v hv)
  rw [hcs] at this
  exact this

attribute [-go_sem] loadCellsFrom

set_option maxHeartbeats 4000000 in
set_option maxRecDepth 100000 in
theorem regain_tt0 (F : Array Value) (w : World) (hF : Fields F 0 true) :
    Calls Try.prog 4 #[.agg F, .bool true] w fun e w' => e = .returned (.bool true) ∧ Below w.heap.size w w' := by
  have hg0 : (w.alloc (.cells F 23)).heap[w.heap.size]? = some (.cells F 23) := heap_alloc_new w _
  have hb0 : Below w.heap.size w (w.alloc (.cells F 23)) := below_new _ _
  have hS := hF.size
  have HS : Hid (F.size = 18) := hS
  clear hS
  go_enter Try.func4, Try.ntmps4
  go_wp2_with ((with_reducible refine ld23 w.heap.size F ?_ HS.out hg0 ?_); exact rfl)
  refine (hF.b13 true _).mono ?_
  rintro e W1 ⟨⟨b, rfl⟩, hb1⟩
  have hg1 := kept hb1 hg0
  have hB1 := below_trans hb0 hb1
  clear hg0 hb0 hb1
  cases b with
  | false =>
    go_wp2
    go_ret
    exact ⟨rfl, hB1⟩
  | true =>
  go_wp2_with ((with_reducible refine ld23 w.heap.size F ?_ HS.out hg1 ?_); exact rfl)
  refine (hF.b6 _).mono ?_
  rintro e W2 ⟨⟨b, rfl⟩, hb2⟩
  have hg2 := kept hb2 hg1
  have hB2 := below_trans hB1 hb2
  clear hg1 hB1 hb2
  cases b with
  | true =>
    go_wp2
    go_ret
    exact ⟨rfl, hB2⟩
  | false =>
  go_wp2_with ((with_reducible refine ld23 w.heap.size F ?_ HS.out hg2 ?_); exact rfl)
  refine (hF.build _).mono ?_
  rintro e X0 ⟨C0, rfl, hC0, hb3⟩
  have hgF0 := kept (below_new X0 (.cells C0 33)) (kept hb3 hg2)
  have hB0 := below_trans (below_trans hB2 hb3) (below_new X0 (.cells C0 33))
  have hgC0 : (X0.alloc (.cells C0 33)).heap[X0.heap.size]? = some (.cells C0 33) := heap_alloc_new X0 _
  clear hg2 hB2 hb3
  go_wp2_with (first | ((with_reducible refine st33n X0.heap.size C0 X0 zero33 ?_ ?_ ?_ rfl ?_ hC0.size hC0.one ?_); exact rfl; exact rfl; exact rfl; exact rfl) | ((with_reducible refine ld33 X0.heap.size C0 ?_ hC0.size hgC0 ?_); exact rfl))
  refine (due_val hC0 true { data := #[114, 101, 115, 117, 109, 101] } rfl _).mono ?_
  rintro e Y0 ⟨rfl, hd0⟩
  have hgD0 := kept hd0 hgC0
  have hgF0' := kept hd0 hgF0
  have hD0 := below_trans hB0 hd0
  clear hgC0 hgF0 hB0 hd0
  go_wp2_with ((with_reducible refine ld33 X0.heap.size C0 ?_ hC0.size hgD0 ?_); exact rfl)
  refine (apply_resume hC0 _).mono ?_
  rintro e X1 ⟨C1, rfl, hC1, he0⟩
  have hgF1 := kept (below_new X1 (.cells C1 33)) (kept he0 hgF0')
  have hB1 := below_trans (below_trans hD0 he0) (below_new X1 (.cells C1 33))
  have hgC1 : (X1.alloc (.cells C1 33)).heap[X1.heap.size]? = some (.cells C1 33) := heap_alloc_new X1 _
  clear hgD0 hgF0' hD0 he0
  go_wp2_with (first | ((with_reducible refine st33n X1.heap.size C1 X1 zero33 ?_ ?_ ?_ rfl ?_ hC1.size hC1.one ?_); exact rfl; exact rfl; exact rfl; exact rfl) | ((with_reducible refine ld33 X1.heap.size C1 ?_ hC1.size hgC1 ?_); exact rfl))
  refine (due_val hC1 false { data := #[115, 116, 111, 112] } rfl _).mono ?_
  rintro e Y1 ⟨rfl, hd1⟩
  have hgD1 := kept hd1 hgC1
  have hgF1' := kept hd1 hgF1
  have hD1 := below_trans hB1 hd1
  clear hgC1 hgF1 hB1 hd1
  go_wp2_with ((with_reducible refine ld33 X1.heap.size C1 ?_ hC1.size hgD1 ?_); exact rfl)
  refine (apply_stop hC1 _).mono ?_
  rintro e X2 ⟨C2, rfl, hC2, he1⟩
  have hgF2 := kept (below_new X2 (.cells C2 33)) (kept he1 hgF1')
  have hB2 := below_trans (below_trans hD1 he1) (below_new X2 (.cells C2 33))
  have hgC2 : (X2.alloc (.cells C2 33)).heap[X2.heap.size]? = some (.cells C2 33) := heap_alloc_new X2 _
  clear hgD1 hgF1' hD1 he1
  go_wp2_with (first | ((with_reducible refine st33n X2.heap.size C2 X2 zero33 ?_ ?_ ?_ rfl ?_ hC2.size hC2.one ?_); exact rfl; exact rfl; exact rfl; exact rfl) | ((with_reducible refine ld33 X2.heap.size C2 ?_ hC2.size hgC2 ?_); exact rfl))
  refine (due_val hC2 true { data := #[114, 101, 115, 117, 109, 101] } rfl _).mono ?_
  rintro e Y2 ⟨rfl, hd2⟩
  have hgD2 := kept hd2 hgC2
  have hgF2' := kept hd2 hgF2
  have hD2 := below_trans hB2 hd2
  clear hgC2 hgF2 hB2 hd2
  go_wp2_with ((with_reducible refine ld33 X2.heap.size C2 ?_ hC2.size hgD2 ?_); exact rfl)
  refine (apply_resume hC2 _).mono ?_
  rintro e X3 ⟨C3, rfl, hC3, he2⟩
  have hgF3 := kept (below_new X3 (.cells C3 33)) (kept he2 hgF2')
  have hB3 := below_trans (below_trans hD2 he2) (below_new X3 (.cells C3 33))
  have hgC3 : (X3.alloc (.cells C3 33)).heap[X3.heap.size]? = some (.cells C3 33) := heap_alloc_new X3 _
  clear hgD2 hgF2' hD2 he2
  have f15 := cell_in hgF3 hF.fnet
  have f17 := cell_in hgF3 hF.fact
  have u15 := cell_in hgC3 hC3.net
  have hlt : w.heap.size < X3.heap.size + 1 := by have := lt_of_heap hgF3; simpa using this
  have HgF : Hid ((X3.alloc (.cells C3 33)).heap[w.heap.size]? = some (.cells F 23)) := hgF3
  clear hgF3
  obtain ⟨Z, HZ⟩ : ∃ Z, Hid (X3.alloc (.cells C3 33) = Z) := ⟨_, rfl⟩
  rw [HZ.out] at f15 f17 u15 hB3 hgC3
  go_wp2_with ((with_reducible refine st33n X3.heap.size C3 X3 zero33 ?_ ?_ ?_ rfl ?_ hC3.size hC3.one ?_); exact rfl; exact rfl; exact rfl; exact rfl; rw [HZ.out])
  go_quiet ((go_at_call 8; exact Calls.quiet_of_same (level_any _ _)))
  have hgC4 : (Z.drewN nq).heap[X3.heap.size]? = some (.cells C3 33) := hgC3
  have hB4 : Below w.heap.size w (Z.drewN nq) := below_drewN hB3 nq
  generalize Z.drewN nq = Z2 at *
  clear hgC3 hB3 HZ HgF f15 f17 u15 hlt
  have hC4 := hC3
  obtain ⟨cs, rfl⟩ : ∃ cs : List Value, C3 = cs.toArray := ⟨C3.toList, rfl⟩
  have hcs : cs.length = 21 := by have := hC3.size; simpa using this
  have sok : ∀ W, Below Z2.heap.size Z2 W → (W.cell? ⟨X3.heap.size, 15, none⟩ = some (.int .i64 1) ∧ (loadCellsFrom ⟨X3.heap.size, 0, none⟩ 0 21 #[]).run Try.prog W = .ok cs.toArray W) := fun W hb =>
    ⟨cell_in (kept hb hgC4) hC3.net, cells33 W _ cs hcs (fun j v hv => cell_in (kept hb hgC4) (by simpa using hv))⟩
  clear hcs
  have b0 : Below Z2.heap.size Z2 Z2.drew := (Below.refl _ _).drew
  have b1 : Below Z2.heap.size Z2 (Z2.drew.alloc (.cells cs.toArray 33)) := (Below.refl _ _).drew.alloc (Nat.le_refl _) _
  go_wp2_with (go_at_call 9; refine (toward_same _ _).mono ?_; rintro e w' ⟨rfl, rfl⟩)
  go_region_held3 (fun W => W.cell? ⟨X3.heap.size, 15, none⟩ = some (.int .i64 1) ∧ (loadCellsFrom ⟨X3.heap.size, 0, none⟩ 0 21 #[]).run Try.prog W = .ok cs.toArray W) (first | exact sok _ b0 | exact sok _ b1) (first | (go_at_call 9; refine (toward_same _ _).mono ?_; rintro e w' ⟨rfl, rfl⟩) | (go_at_call 8; refine (level_same _ _).mono ?_; rintro e w' ⟨rfl, rfl⟩) | (go_at_call 12; refine (stopped_any hC3 _).mono ?_; rintro e w' ⟨rfl, rfl⟩))
  go_wp2
  go_ret
  exact ⟨rfl, by first | exact (below_trans hB4 (below_new _ _)).drew | exact below_trans hB4.drew (below_new _ _)⟩

set_option maxHeartbeats 4000000 in
set_option maxRecDepth 100000 in
theorem regain_tt1 (F : Array Value) (w : World) (hF : Fields F 1 true) :
    Calls Try.prog 4 #[.agg F, .bool true] w fun e w' => e = .returned (.bool true) ∧ Below w.heap.size w w' := by
  have hg0 : (w.alloc (.cells F 23)).heap[w.heap.size]? = some (.cells F 23) := heap_alloc_new w _
  have hb0 : Below w.heap.size w (w.alloc (.cells F 23)) := below_new _ _
  have hS := hF.size
  have HS : Hid (F.size = 18) := hS
  clear hS
  go_enter Try.func4, Try.ntmps4
  go_wp2_with ((with_reducible refine ld23 w.heap.size F ?_ HS.out hg0 ?_); exact rfl)
  refine (hF.b13 true _).mono ?_
  rintro e W1 ⟨⟨b, rfl⟩, hb1⟩
  have hg1 := kept hb1 hg0
  have hB1 := below_trans hb0 hb1
  clear hg0 hb0 hb1
  cases b with
  | false =>
    go_wp2
    go_ret
    exact ⟨rfl, hB1⟩
  | true =>
  go_wp2_with ((with_reducible refine ld23 w.heap.size F ?_ HS.out hg1 ?_); exact rfl)
  refine (hF.b6 _).mono ?_
  rintro e W2 ⟨⟨b, rfl⟩, hb2⟩
  have hg2 := kept hb2 hg1
  have hB2 := below_trans hB1 hb2
  clear hg1 hB1 hb2
  cases b with
  | true =>
    go_wp2
    go_ret
    exact ⟨rfl, hB2⟩
  | false =>
  go_wp2_with ((with_reducible refine ld23 w.heap.size F ?_ HS.out hg2 ?_); exact rfl)
  refine (hF.build _).mono ?_
  rintro e X0 ⟨C0, rfl, hC0, hb3⟩
  have hgF0 := kept (below_new X0 (.cells C0 33)) (kept hb3 hg2)
  have hB0 := below_trans (below_trans hB2 hb3) (below_new X0 (.cells C0 33))
  have hgC0 : (X0.alloc (.cells C0 33)).heap[X0.heap.size]? = some (.cells C0 33) := heap_alloc_new X0 _
  clear hg2 hB2 hb3
  go_wp2_with (first | ((with_reducible refine st33n X0.heap.size C0 X0 zero33 ?_ ?_ ?_ rfl ?_ hC0.size hC0.one ?_); exact rfl; exact rfl; exact rfl; exact rfl) | ((with_reducible refine ld33 X0.heap.size C0 ?_ hC0.size hgC0 ?_); exact rfl))
  refine (due_val hC0 true { data := #[] } rfl _).mono ?_
  rintro e Y0 ⟨rfl, hd0⟩
  have hgD0 := kept hd0 hgC0
  have hgF0' := kept hd0 hgF0
  have hD0 := below_trans hB0 hd0
  clear hgC0 hgF0 hB0 hd0
  go_wp2_with ((with_reducible refine ld33 X0.heap.size C0 ?_ hC0.size hgD0 ?_); exact rfl)
  refine (apply_none hC0 _).mono ?_
  rintro e X1 ⟨C1, rfl, hC1, he0⟩
  have hgF1 := kept (below_new X1 (.cells C1 33)) (kept he0 hgF0')
  have hB1 := below_trans (below_trans hD0 he0) (below_new X1 (.cells C1 33))
  have hgC1 : (X1.alloc (.cells C1 33)).heap[X1.heap.size]? = some (.cells C1 33) := heap_alloc_new X1 _
  clear hgD0 hgF0' hD0 he0
  go_wp2_with (first | ((with_reducible refine st33n X1.heap.size C1 X1 zero33 ?_ ?_ ?_ rfl ?_ hC1.size hC1.one ?_); exact rfl; exact rfl; exact rfl; exact rfl) | ((with_reducible refine ld33 X1.heap.size C1 ?_ hC1.size hgC1 ?_); exact rfl))
  refine (due_val hC1 false { data := #[115, 116, 111, 112] } rfl _).mono ?_
  rintro e Y1 ⟨rfl, hd1⟩
  have hgD1 := kept hd1 hgC1
  have hgF1' := kept hd1 hgF1
  have hD1 := below_trans hB1 hd1
  clear hgC1 hgF1 hB1 hd1
  go_wp2_with ((with_reducible refine ld33 X1.heap.size C1 ?_ hC1.size hgD1 ?_); exact rfl)
  refine (apply_stop hC1 _).mono ?_
  rintro e X2 ⟨C2, rfl, hC2, he1⟩
  have hgF2 := kept (below_new X2 (.cells C2 33)) (kept he1 hgF1')
  have hB2 := below_trans (below_trans hD1 he1) (below_new X2 (.cells C2 33))
  have hgC2 : (X2.alloc (.cells C2 33)).heap[X2.heap.size]? = some (.cells C2 33) := heap_alloc_new X2 _
  clear hgD1 hgF1' hD1 he1
  go_wp2_with (first | ((with_reducible refine st33n X2.heap.size C2 X2 zero33 ?_ ?_ ?_ rfl ?_ hC2.size hC2.one ?_); exact rfl; exact rfl; exact rfl; exact rfl) | ((with_reducible refine ld33 X2.heap.size C2 ?_ hC2.size hgC2 ?_); exact rfl))
  refine (due_val hC2 true { data := #[114, 101, 115, 117, 109, 101] } rfl _).mono ?_
  rintro e Y2 ⟨rfl, hd2⟩
  have hgD2 := kept hd2 hgC2
  have hgF2' := kept hd2 hgF2
  have hD2 := below_trans hB2 hd2
  clear hgC2 hgF2 hB2 hd2
  go_wp2_with ((with_reducible refine ld33 X2.heap.size C2 ?_ hC2.size hgD2 ?_); exact rfl)
  refine (apply_resume hC2 _).mono ?_
  rintro e X3 ⟨C3, rfl, hC3, he2⟩
  have hgF3 := kept (below_new X3 (.cells C3 33)) (kept he2 hgF2')
  have hB3 := below_trans (below_trans hD2 he2) (below_new X3 (.cells C3 33))
  have hgC3 : (X3.alloc (.cells C3 33)).heap[X3.heap.size]? = some (.cells C3 33) := heap_alloc_new X3 _
  clear hgD2 hgF2' hD2 he2
  have f15 := cell_in hgF3 hF.fnet
  have f17 := cell_in hgF3 hF.fact
  have u15 := cell_in hgC3 hC3.net
  have hlt : w.heap.size < X3.heap.size + 1 := by have := lt_of_heap hgF3; simpa using this
  have HgF : Hid ((X3.alloc (.cells C3 33)).heap[w.heap.size]? = some (.cells F 23)) := hgF3
  clear hgF3
  obtain ⟨Z, HZ⟩ : ∃ Z, Hid (X3.alloc (.cells C3 33) = Z) := ⟨_, rfl⟩
  rw [HZ.out] at f15 f17 u15 hB3 hgC3
  go_wp2_with ((with_reducible refine st33n X3.heap.size C3 X3 zero33 ?_ ?_ ?_ rfl ?_ hC3.size hC3.one ?_); exact rfl; exact rfl; exact rfl; exact rfl; rw [HZ.out])
  go_quiet ((go_at_call 8; exact Calls.quiet_of_same (level_any _ _)))
  have hgC4 : (Z.drewN nq).heap[X3.heap.size]? = some (.cells C3 33) := hgC3
  have hB4 : Below w.heap.size w (Z.drewN nq) := below_drewN hB3 nq
  generalize Z.drewN nq = Z2 at *
  clear hgC3 hB3 HZ HgF f15 f17 u15 hlt
  have hC4 := hC3
  obtain ⟨cs, rfl⟩ : ∃ cs : List Value, C3 = cs.toArray := ⟨C3.toList, rfl⟩
  have hcs : cs.length = 21 := by have := hC3.size; simpa using this
  have sok : ∀ W, Below Z2.heap.size Z2 W → (W.cell? ⟨X3.heap.size, 15, none⟩ = some (.int .i64 1) ∧ (loadCellsFrom ⟨X3.heap.size, 0, none⟩ 0 21 #[]).run Try.prog W = .ok cs.toArray W) := fun W hb =>
    ⟨cell_in (kept hb hgC4) hC3.net, cells33 W _ cs hcs (fun j v hv => cell_in (kept hb hgC4) (by simpa using hv))⟩
  clear hcs
  have b0 : Below Z2.heap.size Z2 Z2.drew := (Below.refl _ _).drew
  have b1 : Below Z2.heap.size Z2 (Z2.drew.alloc (.cells cs.toArray 33)) := (Below.refl _ _).drew.alloc (Nat.le_refl _) _
  go_wp2_with (go_at_call 9; refine (toward_same _ _).mono ?_; rintro e w' ⟨rfl, rfl⟩)
  go_region_held3 (fun W => W.cell? ⟨X3.heap.size, 15, none⟩ = some (.int .i64 1) ∧ (loadCellsFrom ⟨X3.heap.size, 0, none⟩ 0 21 #[]).run Try.prog W = .ok cs.toArray W) (first | exact sok _ b0 | exact sok _ b1) (first | (go_at_call 9; refine (toward_same _ _).mono ?_; rintro e w' ⟨rfl, rfl⟩) | (go_at_call 8; refine (level_same _ _).mono ?_; rintro e w' ⟨rfl, rfl⟩) | (go_at_call 12; refine (stopped_any hC3 _).mono ?_; rintro e w' ⟨rfl, rfl⟩))
  go_wp2
  go_ret
  exact ⟨rfl, by first | exact (below_trans hB4 (below_new _ _)).drew | exact below_trans hB4.drew (below_new _ _)⟩

set_option maxHeartbeats 4000000 in
set_option maxRecDepth 100000 in
theorem regain_ttx (F : Array Value) (net : Int) (w : World) (hF : Fields F net true) (n0 : (net == 0) = false) (n1 : (net == 1) = false) :
    Calls Try.prog 4 #[.agg F, .bool true] w fun e w' => e = .returned (.bool true) ∧ Below w.heap.size w w' := by
  have hg0 : (w.alloc (.cells F 23)).heap[w.heap.size]? = some (.cells F 23) := heap_alloc_new w _
  have hb0 : Below w.heap.size w (w.alloc (.cells F 23)) := below_new _ _
  have hS := hF.size
  have HS : Hid (F.size = 18) := hS
  clear hS
  go_enter Try.func4, Try.ntmps4
  go_wp2_with ((with_reducible refine ld23 w.heap.size F ?_ HS.out hg0 ?_); exact rfl)
  refine (hF.b13 true _).mono ?_
  rintro e W1 ⟨⟨b, rfl⟩, hb1⟩
  have hg1 := kept hb1 hg0
  have hB1 := below_trans hb0 hb1
  clear hg0 hb0 hb1
  cases b with
  | false =>
    go_wp2
    go_ret
    exact ⟨rfl, hB1⟩
  | true =>
  go_wp2_with ((with_reducible refine ld23 w.heap.size F ?_ HS.out hg1 ?_); exact rfl)
  refine (hF.b6 _).mono ?_
  rintro e W2 ⟨⟨b, rfl⟩, hb2⟩
  have hg2 := kept hb2 hg1
  have hB2 := below_trans hB1 hb2
  clear hg1 hB1 hb2
  cases b with
  | true =>
    go_wp2
    go_ret
    exact ⟨rfl, hB2⟩
  | false =>
  go_wp2_with ((with_reducible refine ld23 w.heap.size F ?_ HS.out hg2 ?_); exact rfl)
  refine (hF.build _).mono ?_
  rintro e X0 ⟨C0, rfl, hC0, hb3⟩
  have hgF0 := kept (below_new X0 (.cells C0 33)) (kept hb3 hg2)
  have hB0 := below_trans (below_trans hB2 hb3) (below_new X0 (.cells C0 33))
  have hgC0 : (X0.alloc (.cells C0 33)).heap[X0.heap.size]? = some (.cells C0 33) := heap_alloc_new X0 _
  clear hg2 hB2 hb3
  go_wp2_with (first | ((with_reducible refine st33n X0.heap.size C0 X0 zero33 ?_ ?_ ?_ rfl ?_ hC0.size hC0.one ?_); exact rfl; exact rfl; exact rfl; exact rfl) | ((with_reducible refine ld33 X0.heap.size C0 ?_ hC0.size hgC0 ?_); exact rfl))
  refine (due_val hC0 true { data := #[] } (due_x n0 n1) _).mono ?_
  rintro e Y0 ⟨rfl, hd0⟩
  have hgD0 := kept hd0 hgC0
  have hgF0' := kept hd0 hgF0
  have hD0 := below_trans hB0 hd0
  clear hgC0 hgF0 hB0 hd0
  go_wp2_with ((with_reducible refine ld33 X0.heap.size C0 ?_ hC0.size hgD0 ?_); exact rfl)
  refine (apply_none hC0 _).mono ?_
  rintro e X1 ⟨C1, rfl, hC1, he0⟩
  have hgF1 := kept (below_new X1 (.cells C1 33)) (kept he0 hgF0')
  have hB1 := below_trans (below_trans hD0 he0) (below_new X1 (.cells C1 33))
  have hgC1 : (X1.alloc (.cells C1 33)).heap[X1.heap.size]? = some (.cells C1 33) := heap_alloc_new X1 _
  clear hgD0 hgF0' hD0 he0
  go_wp2_with (first | ((with_reducible refine st33n X1.heap.size C1 X1 zero33 ?_ ?_ ?_ rfl ?_ hC1.size hC1.one ?_); exact rfl; exact rfl; exact rfl; exact rfl) | ((with_reducible refine ld33 X1.heap.size C1 ?_ hC1.size hgC1 ?_); exact rfl))
  refine (due_val hC1 false { data := #[] } (due_x n0 n1) _).mono ?_
  rintro e Y1 ⟨rfl, hd1⟩
  have hgD1 := kept hd1 hgC1
  have hgF1' := kept hd1 hgF1
  have hD1 := below_trans hB1 hd1
  clear hgC1 hgF1 hB1 hd1
  go_wp2_with ((with_reducible refine ld33 X1.heap.size C1 ?_ hC1.size hgD1 ?_); exact rfl)
  refine (apply_none hC1 _).mono ?_
  rintro e X2 ⟨C2, rfl, hC2, he1⟩
  have hgF2 := kept (below_new X2 (.cells C2 33)) (kept he1 hgF1')
  have hB2 := below_trans (below_trans hD1 he1) (below_new X2 (.cells C2 33))
  have hgC2 : (X2.alloc (.cells C2 33)).heap[X2.heap.size]? = some (.cells C2 33) := heap_alloc_new X2 _
  clear hgD1 hgF1' hD1 he1
  go_wp2_with (first | ((with_reducible refine st33n X2.heap.size C2 X2 zero33 ?_ ?_ ?_ rfl ?_ hC2.size hC2.one ?_); exact rfl; exact rfl; exact rfl; exact rfl) | ((with_reducible refine ld33 X2.heap.size C2 ?_ hC2.size hgC2 ?_); exact rfl))
  refine (due_val hC2 true { data := #[] } (due_x n0 n1) _).mono ?_
  rintro e Y2 ⟨rfl, hd2⟩
  have hgD2 := kept hd2 hgC2
  have hgF2' := kept hd2 hgF2
  have hD2 := below_trans hB2 hd2
  clear hgC2 hgF2 hB2 hd2
  go_wp2_with ((with_reducible refine ld33 X2.heap.size C2 ?_ hC2.size hgD2 ?_); exact rfl)
  refine (apply_none hC2 _).mono ?_
  rintro e X3 ⟨C3, rfl, hC3, he2⟩
  have hgF3 := kept (below_new X3 (.cells C3 33)) (kept he2 hgF2')
  have hB3 := below_trans (below_trans hD2 he2) (below_new X3 (.cells C3 33))
  have hgC3 : (X3.alloc (.cells C3 33)).heap[X3.heap.size]? = some (.cells C3 33) := heap_alloc_new X3 _
  clear hgD2 hgF2' hD2 he2
  have f15 := cell_in hgF3 hF.fnet
  have f17 := cell_in hgF3 hF.fact
  have u15 := cell_in hgC3 hC3.net
  have hlt : w.heap.size < X3.heap.size + 1 := by have := lt_of_heap hgF3; simpa using this
  have HgF : Hid ((X3.alloc (.cells C3 33)).heap[w.heap.size]? = some (.cells F 23)) := hgF3
  clear hgF3
  obtain ⟨Z, HZ⟩ : ∃ Z, Hid (X3.alloc (.cells C3 33) = Z) := ⟨_, rfl⟩
  rw [HZ.out] at f15 f17 u15 hB3 hgC3
  go_wp2_with ((with_reducible refine st33n X3.heap.size C3 X3 zero33 ?_ ?_ ?_ rfl ?_ hC3.size hC3.one ?_); exact rfl; exact rfl; exact rfl; exact rfl; rw [HZ.out])
  go_ret
  exact ⟨rfl, hB3⟩

set_option maxHeartbeats 4000000 in
set_option maxRecDepth 100000 in
theorem regain_tf0 (F : Array Value) (w : World) (hF : Fields F 0 false) :
    Calls Try.prog 4 #[.agg F, .bool true] w fun e w' => e = .returned (.bool true) ∧ Below w.heap.size w w' := by
  have hg0 : (w.alloc (.cells F 23)).heap[w.heap.size]? = some (.cells F 23) := heap_alloc_new w _
  have hb0 : Below w.heap.size w (w.alloc (.cells F 23)) := below_new _ _
  have hS := hF.size
  have HS : Hid (F.size = 18) := hS
  clear hS
  go_enter Try.func4, Try.ntmps4
  go_wp2_with ((with_reducible refine ld23 w.heap.size F ?_ HS.out hg0 ?_); exact rfl)
  refine (hF.b13 true _).mono ?_
  rintro e W1 ⟨⟨b, rfl⟩, hb1⟩
  have hg1 := kept hb1 hg0
  have hB1 := below_trans hb0 hb1
  clear hg0 hb0 hb1
  cases b with
  | false =>
    go_wp2
    go_ret
    exact ⟨rfl, hB1⟩
  | true =>
  go_wp2_with ((with_reducible refine ld23 w.heap.size F ?_ HS.out hg1 ?_); exact rfl)
  refine (hF.b6 _).mono ?_
  rintro e W2 ⟨⟨b, rfl⟩, hb2⟩
  have hg2 := kept hb2 hg1
  have hB2 := below_trans hB1 hb2
  clear hg1 hB1 hb2
  cases b with
  | true =>
    go_wp2
    go_ret
    exact ⟨rfl, hB2⟩
  | false =>
  go_wp2_with ((with_reducible refine ld23 w.heap.size F ?_ HS.out hg2 ?_); exact rfl)
  refine (hF.build _).mono ?_
  rintro e X0 ⟨C0, rfl, hC0, hb3⟩
  have hgF0 := kept (below_new X0 (.cells C0 33)) (kept hb3 hg2)
  have hB0 := below_trans (below_trans hB2 hb3) (below_new X0 (.cells C0 33))
  have hgC0 : (X0.alloc (.cells C0 33)).heap[X0.heap.size]? = some (.cells C0 33) := heap_alloc_new X0 _
  clear hg2 hB2 hb3
  go_wp2_with (first | ((with_reducible refine st33n X0.heap.size C0 X0 zero33 ?_ ?_ ?_ rfl ?_ hC0.size hC0.one ?_); exact rfl; exact rfl; exact rfl; exact rfl) | ((with_reducible refine ld33 X0.heap.size C0 ?_ hC0.size hgC0 ?_); exact rfl))
  refine (due_val hC0 true { data := #[] } rfl _).mono ?_
  rintro e Y0 ⟨rfl, hd0⟩
  have hgD0 := kept hd0 hgC0
  have hgF0' := kept hd0 hgF0
  have hD0 := below_trans hB0 hd0
  clear hgC0 hgF0 hB0 hd0
  go_wp2_with ((with_reducible refine ld33 X0.heap.size C0 ?_ hC0.size hgD0 ?_); exact rfl)
  refine (apply_none hC0 _).mono ?_
  rintro e X1 ⟨C1, rfl, hC1, he0⟩
  have hgF1 := kept (below_new X1 (.cells C1 33)) (kept he0 hgF0')
  have hB1 := below_trans (below_trans hD0 he0) (below_new X1 (.cells C1 33))
  have hgC1 : (X1.alloc (.cells C1 33)).heap[X1.heap.size]? = some (.cells C1 33) := heap_alloc_new X1 _
  clear hgD0 hgF0' hD0 he0
  go_wp2_with (first | ((with_reducible refine st33n X1.heap.size C1 X1 zero33 ?_ ?_ ?_ rfl ?_ hC1.size hC1.one ?_); exact rfl; exact rfl; exact rfl; exact rfl) | ((with_reducible refine ld33 X1.heap.size C1 ?_ hC1.size hgC1 ?_); exact rfl))
  refine (due_val hC1 false { data := #[] } rfl _).mono ?_
  rintro e Y1 ⟨rfl, hd1⟩
  have hgD1 := kept hd1 hgC1
  have hgF1' := kept hd1 hgF1
  have hD1 := below_trans hB1 hd1
  clear hgC1 hgF1 hB1 hd1
  go_wp2_with ((with_reducible refine ld33 X1.heap.size C1 ?_ hC1.size hgD1 ?_); exact rfl)
  refine (apply_none hC1 _).mono ?_
  rintro e X2 ⟨C2, rfl, hC2, he1⟩
  have hgF2 := kept (below_new X2 (.cells C2 33)) (kept he1 hgF1')
  have hB2 := below_trans (below_trans hD1 he1) (below_new X2 (.cells C2 33))
  have hgC2 : (X2.alloc (.cells C2 33)).heap[X2.heap.size]? = some (.cells C2 33) := heap_alloc_new X2 _
  clear hgD1 hgF1' hD1 he1
  go_wp2_with (first | ((with_reducible refine st33n X2.heap.size C2 X2 zero33 ?_ ?_ ?_ rfl ?_ hC2.size hC2.one ?_); exact rfl; exact rfl; exact rfl; exact rfl) | ((with_reducible refine ld33 X2.heap.size C2 ?_ hC2.size hgC2 ?_); exact rfl))
  refine (due_val hC2 true { data := #[] } rfl _).mono ?_
  rintro e Y2 ⟨rfl, hd2⟩
  have hgD2 := kept hd2 hgC2
  have hgF2' := kept hd2 hgF2
  have hD2 := below_trans hB2 hd2
  clear hgC2 hgF2 hB2 hd2
  go_wp2_with ((with_reducible refine ld33 X2.heap.size C2 ?_ hC2.size hgD2 ?_); exact rfl)
  refine (apply_none hC2 _).mono ?_
  rintro e X3 ⟨C3, rfl, hC3, he2⟩
  have hgF3 := kept (below_new X3 (.cells C3 33)) (kept he2 hgF2')
  have hB3 := below_trans (below_trans hD2 he2) (below_new X3 (.cells C3 33))
  have hgC3 : (X3.alloc (.cells C3 33)).heap[X3.heap.size]? = some (.cells C3 33) := heap_alloc_new X3 _
  clear hgD2 hgF2' hD2 he2
  have f15 := cell_in hgF3 hF.fnet
  have f17 := cell_in hgF3 hF.fact
  have u15 := cell_in hgC3 hC3.net
  have hlt : w.heap.size < X3.heap.size + 1 := by have := lt_of_heap hgF3; simpa using this
  have HgF : Hid ((X3.alloc (.cells C3 33)).heap[w.heap.size]? = some (.cells F 23)) := hgF3
  clear hgF3
  obtain ⟨Z, HZ⟩ : ∃ Z, Hid (X3.alloc (.cells C3 33) = Z) := ⟨_, rfl⟩
  rw [HZ.out] at f15 f17 u15 hB3 hgC3
  go_wp2_with (first | ((with_reducible refine st33n X3.heap.size C3 X3 zero33 ?_ ?_ ?_ rfl ?_ hC3.size hC3.one ?_); exact rfl; exact rfl; exact rfl; exact rfl; rw [HZ.out]) | ((with_reducible refine ld33g X3.heap.size C3 ?_ ?_ hC3.size hgC3 ?_); exact rfl; exact rfl) | (go_at_call 12; refine (stopped_any hC3 _).mono ?_; rintro e w' ⟨rfl, rfl⟩))
  go_ret
  exact ⟨rfl, below_trans hB3 (below_new _ _)⟩

set_option maxHeartbeats 4000000 in
set_option maxRecDepth 100000 in
theorem regain_tf1 (F : Array Value) (w : World) (hF : Fields F 1 false) :
    Calls Try.prog 4 #[.agg F, .bool true] w fun e w' => e = .returned (.bool true) ∧ Below w.heap.size w w' := by
  have hg0 : (w.alloc (.cells F 23)).heap[w.heap.size]? = some (.cells F 23) := heap_alloc_new w _
  have hb0 : Below w.heap.size w (w.alloc (.cells F 23)) := below_new _ _
  have hS := hF.size
  have HS : Hid (F.size = 18) := hS
  clear hS
  go_enter Try.func4, Try.ntmps4
  go_wp2_with ((with_reducible refine ld23 w.heap.size F ?_ HS.out hg0 ?_); exact rfl)
  refine (hF.b13 true _).mono ?_
  rintro e W1 ⟨⟨b, rfl⟩, hb1⟩
  have hg1 := kept hb1 hg0
  have hB1 := below_trans hb0 hb1
  clear hg0 hb0 hb1
  cases b with
  | false =>
    go_wp2
    go_ret
    exact ⟨rfl, hB1⟩
  | true =>
  go_wp2_with ((with_reducible refine ld23 w.heap.size F ?_ HS.out hg1 ?_); exact rfl)
  refine (hF.b6 _).mono ?_
  rintro e W2 ⟨⟨b, rfl⟩, hb2⟩
  have hg2 := kept hb2 hg1
  have hB2 := below_trans hB1 hb2
  clear hg1 hB1 hb2
  cases b with
  | true =>
    go_wp2
    go_ret
    exact ⟨rfl, hB2⟩
  | false =>
  go_wp2_with ((with_reducible refine ld23 w.heap.size F ?_ HS.out hg2 ?_); exact rfl)
  refine (hF.build _).mono ?_
  rintro e X0 ⟨C0, rfl, hC0, hb3⟩
  have hgF0 := kept (below_new X0 (.cells C0 33)) (kept hb3 hg2)
  have hB0 := below_trans (below_trans hB2 hb3) (below_new X0 (.cells C0 33))
  have hgC0 : (X0.alloc (.cells C0 33)).heap[X0.heap.size]? = some (.cells C0 33) := heap_alloc_new X0 _
  clear hg2 hB2 hb3
  go_wp2_with (first | ((with_reducible refine st33n X0.heap.size C0 X0 zero33 ?_ ?_ ?_ rfl ?_ hC0.size hC0.one ?_); exact rfl; exact rfl; exact rfl; exact rfl) | ((with_reducible refine ld33 X0.heap.size C0 ?_ hC0.size hgC0 ?_); exact rfl))
  refine (due_val hC0 true { data := #[] } rfl _).mono ?_
  rintro e Y0 ⟨rfl, hd0⟩
  have hgD0 := kept hd0 hgC0
  have hgF0' := kept hd0 hgF0
  have hD0 := below_trans hB0 hd0
  clear hgC0 hgF0 hB0 hd0
  go_wp2_with ((with_reducible refine ld33 X0.heap.size C0 ?_ hC0.size hgD0 ?_); exact rfl)
  refine (apply_none hC0 _).mono ?_
  rintro e X1 ⟨C1, rfl, hC1, he0⟩
  have hgF1 := kept (below_new X1 (.cells C1 33)) (kept he0 hgF0')
  have hB1 := below_trans (below_trans hD0 he0) (below_new X1 (.cells C1 33))
  have hgC1 : (X1.alloc (.cells C1 33)).heap[X1.heap.size]? = some (.cells C1 33) := heap_alloc_new X1 _
  clear hgD0 hgF0' hD0 he0
  go_wp2_with (first | ((with_reducible refine st33n X1.heap.size C1 X1 zero33 ?_ ?_ ?_ rfl ?_ hC1.size hC1.one ?_); exact rfl; exact rfl; exact rfl; exact rfl) | ((with_reducible refine ld33 X1.heap.size C1 ?_ hC1.size hgC1 ?_); exact rfl))
  refine (due_val hC1 false { data := #[115, 116, 111, 112] } rfl _).mono ?_
  rintro e Y1 ⟨rfl, hd1⟩
  have hgD1 := kept hd1 hgC1
  have hgF1' := kept hd1 hgF1
  have hD1 := below_trans hB1 hd1
  clear hgC1 hgF1 hB1 hd1
  go_wp2_with ((with_reducible refine ld33 X1.heap.size C1 ?_ hC1.size hgD1 ?_); exact rfl)
  refine (apply_stop hC1 _).mono ?_
  rintro e X2 ⟨C2, rfl, hC2, he1⟩
  have hgF2 := kept (below_new X2 (.cells C2 33)) (kept he1 hgF1')
  have hB2 := below_trans (below_trans hD1 he1) (below_new X2 (.cells C2 33))
  have hgC2 : (X2.alloc (.cells C2 33)).heap[X2.heap.size]? = some (.cells C2 33) := heap_alloc_new X2 _
  clear hgD1 hgF1' hD1 he1
  go_wp2_with (first | ((with_reducible refine st33n X2.heap.size C2 X2 zero33 ?_ ?_ ?_ rfl ?_ hC2.size hC2.one ?_); exact rfl; exact rfl; exact rfl; exact rfl) | ((with_reducible refine ld33 X2.heap.size C2 ?_ hC2.size hgC2 ?_); exact rfl))
  refine (due_val hC2 true { data := #[] } rfl _).mono ?_
  rintro e Y2 ⟨rfl, hd2⟩
  have hgD2 := kept hd2 hgC2
  have hgF2' := kept hd2 hgF2
  have hD2 := below_trans hB2 hd2
  clear hgC2 hgF2 hB2 hd2
  go_wp2_with ((with_reducible refine ld33 X2.heap.size C2 ?_ hC2.size hgD2 ?_); exact rfl)
  refine (apply_none hC2 _).mono ?_
  rintro e X3 ⟨C3, rfl, hC3, he2⟩
  have hgF3 := kept (below_new X3 (.cells C3 33)) (kept he2 hgF2')
  have hB3 := below_trans (below_trans hD2 he2) (below_new X3 (.cells C3 33))
  have hgC3 : (X3.alloc (.cells C3 33)).heap[X3.heap.size]? = some (.cells C3 33) := heap_alloc_new X3 _
  clear hgD2 hgF2' hD2 he2
  have f15 := cell_in hgF3 hF.fnet
  have f17 := cell_in hgF3 hF.fact
  have u15 := cell_in hgC3 hC3.net
  have hlt : w.heap.size < X3.heap.size + 1 := by have := lt_of_heap hgF3; simpa using this
  have HgF : Hid ((X3.alloc (.cells C3 33)).heap[w.heap.size]? = some (.cells F 23)) := hgF3
  clear hgF3
  obtain ⟨Z, HZ⟩ : ∃ Z, Hid (X3.alloc (.cells C3 33) = Z) := ⟨_, rfl⟩
  rw [HZ.out] at f15 f17 u15 hB3 hgC3
  go_wp2_with (first | ((with_reducible refine st33n X3.heap.size C3 X3 zero33 ?_ ?_ ?_ rfl ?_ hC3.size hC3.one ?_); exact rfl; exact rfl; exact rfl; exact rfl; rw [HZ.out]) | ((with_reducible refine ld33g X3.heap.size C3 ?_ ?_ hC3.size hgC3 ?_); exact rfl; exact rfl) | (go_at_call 12; refine (stopped_any hC3 _).mono ?_; rintro e w' ⟨rfl, rfl⟩))
  go_ret
  exact ⟨rfl, below_trans hB3 (below_new _ _)⟩

set_option maxHeartbeats 4000000 in
set_option maxRecDepth 100000 in
theorem regain_tfx (F : Array Value) (net : Int) (w : World) (hF : Fields F net false) (n0 : (net == 0) = false) (n1 : (net == 1) = false) :
    Calls Try.prog 4 #[.agg F, .bool true] w fun e w' => e = .returned (.bool true) ∧ Below w.heap.size w w' := by
  have hg0 : (w.alloc (.cells F 23)).heap[w.heap.size]? = some (.cells F 23) := heap_alloc_new w _
  have hb0 : Below w.heap.size w (w.alloc (.cells F 23)) := below_new _ _
  have hS := hF.size
  have HS : Hid (F.size = 18) := hS
  clear hS
  go_enter Try.func4, Try.ntmps4
  go_wp2_with ((with_reducible refine ld23 w.heap.size F ?_ HS.out hg0 ?_); exact rfl)
  refine (hF.b13 true _).mono ?_
  rintro e W1 ⟨⟨b, rfl⟩, hb1⟩
  have hg1 := kept hb1 hg0
  have hB1 := below_trans hb0 hb1
  clear hg0 hb0 hb1
  cases b with
  | false =>
    go_wp2
    go_ret
    exact ⟨rfl, hB1⟩
  | true =>
  go_wp2_with ((with_reducible refine ld23 w.heap.size F ?_ HS.out hg1 ?_); exact rfl)
  refine (hF.b6 _).mono ?_
  rintro e W2 ⟨⟨b, rfl⟩, hb2⟩
  have hg2 := kept hb2 hg1
  have hB2 := below_trans hB1 hb2
  clear hg1 hB1 hb2
  cases b with
  | true =>
    go_wp2
    go_ret
    exact ⟨rfl, hB2⟩
  | false =>
  go_wp2_with ((with_reducible refine ld23 w.heap.size F ?_ HS.out hg2 ?_); exact rfl)
  refine (hF.build _).mono ?_
  rintro e X0 ⟨C0, rfl, hC0, hb3⟩
  have hgF0 := kept (below_new X0 (.cells C0 33)) (kept hb3 hg2)
  have hB0 := below_trans (below_trans hB2 hb3) (below_new X0 (.cells C0 33))
  have hgC0 : (X0.alloc (.cells C0 33)).heap[X0.heap.size]? = some (.cells C0 33) := heap_alloc_new X0 _
  clear hg2 hB2 hb3
  go_wp2_with (first | ((with_reducible refine st33n X0.heap.size C0 X0 zero33 ?_ ?_ ?_ rfl ?_ hC0.size hC0.one ?_); exact rfl; exact rfl; exact rfl; exact rfl) | ((with_reducible refine ld33 X0.heap.size C0 ?_ hC0.size hgC0 ?_); exact rfl))
  refine (due_val hC0 true { data := #[] } (due_x n0 n1) _).mono ?_
  rintro e Y0 ⟨rfl, hd0⟩
  have hgD0 := kept hd0 hgC0
  have hgF0' := kept hd0 hgF0
  have hD0 := below_trans hB0 hd0
  clear hgC0 hgF0 hB0 hd0
  go_wp2_with ((with_reducible refine ld33 X0.heap.size C0 ?_ hC0.size hgD0 ?_); exact rfl)
  refine (apply_none hC0 _).mono ?_
  rintro e X1 ⟨C1, rfl, hC1, he0⟩
  have hgF1 := kept (below_new X1 (.cells C1 33)) (kept he0 hgF0')
  have hB1 := below_trans (below_trans hD0 he0) (below_new X1 (.cells C1 33))
  have hgC1 : (X1.alloc (.cells C1 33)).heap[X1.heap.size]? = some (.cells C1 33) := heap_alloc_new X1 _
  clear hgD0 hgF0' hD0 he0
  go_wp2_with (first | ((with_reducible refine st33n X1.heap.size C1 X1 zero33 ?_ ?_ ?_ rfl ?_ hC1.size hC1.one ?_); exact rfl; exact rfl; exact rfl; exact rfl) | ((with_reducible refine ld33 X1.heap.size C1 ?_ hC1.size hgC1 ?_); exact rfl))
  refine (due_val hC1 false { data := #[] } (due_x n0 n1) _).mono ?_
  rintro e Y1 ⟨rfl, hd1⟩
  have hgD1 := kept hd1 hgC1
  have hgF1' := kept hd1 hgF1
  have hD1 := below_trans hB1 hd1
  clear hgC1 hgF1 hB1 hd1
  go_wp2_with ((with_reducible refine ld33 X1.heap.size C1 ?_ hC1.size hgD1 ?_); exact rfl)
  refine (apply_none hC1 _).mono ?_
  rintro e X2 ⟨C2, rfl, hC2, he1⟩
  have hgF2 := kept (below_new X2 (.cells C2 33)) (kept he1 hgF1')
  have hB2 := below_trans (below_trans hD1 he1) (below_new X2 (.cells C2 33))
  have hgC2 : (X2.alloc (.cells C2 33)).heap[X2.heap.size]? = some (.cells C2 33) := heap_alloc_new X2 _
  clear hgD1 hgF1' hD1 he1
  go_wp2_with (first | ((with_reducible refine st33n X2.heap.size C2 X2 zero33 ?_ ?_ ?_ rfl ?_ hC2.size hC2.one ?_); exact rfl; exact rfl; exact rfl; exact rfl) | ((with_reducible refine ld33 X2.heap.size C2 ?_ hC2.size hgC2 ?_); exact rfl))
  refine (due_val hC2 true { data := #[] } (due_x n0 n1) _).mono ?_
  rintro e Y2 ⟨rfl, hd2⟩
  have hgD2 := kept hd2 hgC2
  have hgF2' := kept hd2 hgF2
  have hD2 := below_trans hB2 hd2
  clear hgC2 hgF2 hB2 hd2
  go_wp2_with ((with_reducible refine ld33 X2.heap.size C2 ?_ hC2.size hgD2 ?_); exact rfl)
  refine (apply_none hC2 _).mono ?_
  rintro e X3 ⟨C3, rfl, hC3, he2⟩
  have hgF3 := kept (below_new X3 (.cells C3 33)) (kept he2 hgF2')
  have hB3 := below_trans (below_trans hD2 he2) (below_new X3 (.cells C3 33))
  have hgC3 : (X3.alloc (.cells C3 33)).heap[X3.heap.size]? = some (.cells C3 33) := heap_alloc_new X3 _
  clear hgD2 hgF2' hD2 he2
  have f15 := cell_in hgF3 hF.fnet
  have f17 := cell_in hgF3 hF.fact
  have u15 := cell_in hgC3 hC3.net
  have hlt : w.heap.size < X3.heap.size + 1 := by have := lt_of_heap hgF3; simpa using this
  have HgF : Hid ((X3.alloc (.cells C3 33)).heap[w.heap.size]? = some (.cells F 23)) := hgF3
  clear hgF3
  obtain ⟨Z, HZ⟩ : ∃ Z, Hid (X3.alloc (.cells C3 33) = Z) := ⟨_, rfl⟩
  rw [HZ.out] at f15 f17 u15 hB3 hgC3
  go_wp2_with ((with_reducible refine st33n X3.heap.size C3 X3 zero33 ?_ ?_ ?_ rfl ?_ hC3.size hC3.one ?_); exact rfl; exact rfl; exact rfl; exact rfl; rw [HZ.out])
  go_ret
  exact ⟨rfl, hB3⟩

set_option maxHeartbeats 4000000 in
set_option maxRecDepth 100000 in
theorem regain_ft0 (F : Array Value) (w : World) (hF : Fields F 0 true) :
    Calls Try.prog 4 #[.agg F, .bool false] w fun e w' => e = .returned (.bool true) ∧ Below w.heap.size w w' := by
  have hg0 : (w.alloc (.cells F 23)).heap[w.heap.size]? = some (.cells F 23) := heap_alloc_new w _
  have hb0 : Below w.heap.size w (w.alloc (.cells F 23)) := below_new _ _
  have hS := hF.size
  have HS : Hid (F.size = 18) := hS
  clear hS
  go_enter Try.func4, Try.ntmps4
  go_wp2_with ((with_reducible refine ld23 w.heap.size F ?_ HS.out hg0 ?_); exact rfl)
  refine (hF.b13 false _).mono ?_
  rintro e W1 ⟨⟨b, rfl⟩, hb1⟩
  have hg1 := kept hb1 hg0
  have hB1 := below_trans hb0 hb1
  clear hg0 hb0 hb1
  cases b with
  | false =>
    go_wp2
    go_ret
    exact ⟨rfl, hB1⟩
  | true =>
  go_wp2_with ((with_reducible refine ld23 w.heap.size F ?_ HS.out hg1 ?_); exact rfl)
  refine (hF.b6 _).mono ?_
  rintro e W2 ⟨⟨b, rfl⟩, hb2⟩
  have hg2 := kept hb2 hg1
  have hB2 := below_trans hB1 hb2
  clear hg1 hB1 hb2
  cases b with
  | true =>
    go_wp2
    go_ret
    exact ⟨rfl, hB2⟩
  | false =>
  go_wp2_with ((with_reducible refine ld23 w.heap.size F ?_ HS.out hg2 ?_); exact rfl)
  refine (hF.build _).mono ?_
  rintro e X0 ⟨C0, rfl, hC0, hb3⟩
  have hgF0 := kept (below_new X0 (.cells C0 33)) (kept hb3 hg2)
  have hB0 := below_trans (below_trans hB2 hb3) (below_new X0 (.cells C0 33))
  have hgC0 : (X0.alloc (.cells C0 33)).heap[X0.heap.size]? = some (.cells C0 33) := heap_alloc_new X0 _
  clear hg2 hB2 hb3
  go_wp2_with (first | ((with_reducible refine st33n X0.heap.size C0 X0 zero33 ?_ ?_ ?_ rfl ?_ hC0.size hC0.one ?_); exact rfl; exact rfl; exact rfl; exact rfl) | ((with_reducible refine ld33 X0.heap.size C0 ?_ hC0.size hgC0 ?_); exact rfl))
  refine (due_val hC0 false { data := #[] } rfl _).mono ?_
  rintro e Y0 ⟨rfl, hd0⟩
  have hgD0 := kept hd0 hgC0
  have hgF0' := kept hd0 hgF0
  have hD0 := below_trans hB0 hd0
  clear hgC0 hgF0 hB0 hd0
  go_wp2_with ((with_reducible refine ld33 X0.heap.size C0 ?_ hC0.size hgD0 ?_); exact rfl)
  refine (apply_none hC0 _).mono ?_
  rintro e X1 ⟨C1, rfl, hC1, he0⟩
  have hgF1 := kept (below_new X1 (.cells C1 33)) (kept he0 hgF0')
  have hB1 := below_trans (below_trans hD0 he0) (below_new X1 (.cells C1 33))
  have hgC1 : (X1.alloc (.cells C1 33)).heap[X1.heap.size]? = some (.cells C1 33) := heap_alloc_new X1 _
  clear hgD0 hgF0' hD0 he0
  go_wp2_with (first | ((with_reducible refine st33n X1.heap.size C1 X1 zero33 ?_ ?_ ?_ rfl ?_ hC1.size hC1.one ?_); exact rfl; exact rfl; exact rfl; exact rfl) | ((with_reducible refine ld33 X1.heap.size C1 ?_ hC1.size hgC1 ?_); exact rfl))
  refine (due_val hC1 true { data := #[114, 101, 115, 117, 109, 101] } rfl _).mono ?_
  rintro e Y1 ⟨rfl, hd1⟩
  have hgD1 := kept hd1 hgC1
  have hgF1' := kept hd1 hgF1
  have hD1 := below_trans hB1 hd1
  clear hgC1 hgF1 hB1 hd1
  go_wp2_with ((with_reducible refine ld33 X1.heap.size C1 ?_ hC1.size hgD1 ?_); exact rfl)
  refine (apply_resume hC1 _).mono ?_
  rintro e X2 ⟨C2, rfl, hC2, he1⟩
  have hgF2 := kept (below_new X2 (.cells C2 33)) (kept he1 hgF1')
  have hB2 := below_trans (below_trans hD1 he1) (below_new X2 (.cells C2 33))
  have hgC2 : (X2.alloc (.cells C2 33)).heap[X2.heap.size]? = some (.cells C2 33) := heap_alloc_new X2 _
  clear hgD1 hgF1' hD1 he1
  go_wp2_with (first | ((with_reducible refine st33n X2.heap.size C2 X2 zero33 ?_ ?_ ?_ rfl ?_ hC2.size hC2.one ?_); exact rfl; exact rfl; exact rfl; exact rfl) | ((with_reducible refine ld33 X2.heap.size C2 ?_ hC2.size hgC2 ?_); exact rfl))
  refine (due_val hC2 false { data := #[115, 116, 111, 112] } rfl _).mono ?_
  rintro e Y2 ⟨rfl, hd2⟩
  have hgD2 := kept hd2 hgC2
  have hgF2' := kept hd2 hgF2
  have hD2 := below_trans hB2 hd2
  clear hgC2 hgF2 hB2 hd2
  go_wp2_with ((with_reducible refine ld33 X2.heap.size C2 ?_ hC2.size hgD2 ?_); exact rfl)
  refine (apply_stop hC2 _).mono ?_
  rintro e X3 ⟨C3, rfl, hC3, he2⟩
  have hgF3 := kept (below_new X3 (.cells C3 33)) (kept he2 hgF2')
  have hB3 := below_trans (below_trans hD2 he2) (below_new X3 (.cells C3 33))
  have hgC3 : (X3.alloc (.cells C3 33)).heap[X3.heap.size]? = some (.cells C3 33) := heap_alloc_new X3 _
  clear hgD2 hgF2' hD2 he2
  have f15 := cell_in hgF3 hF.fnet
  have f17 := cell_in hgF3 hF.fact
  have u15 := cell_in hgC3 hC3.net
  have hlt : w.heap.size < X3.heap.size + 1 := by have := lt_of_heap hgF3; simpa using this
  have HgF : Hid ((X3.alloc (.cells C3 33)).heap[w.heap.size]? = some (.cells F 23)) := hgF3
  clear hgF3
  obtain ⟨Z, HZ⟩ : ∃ Z, Hid (X3.alloc (.cells C3 33) = Z) := ⟨_, rfl⟩
  rw [HZ.out] at f15 f17 u15 hB3 hgC3
  go_wp2_with ((with_reducible refine st33n X3.heap.size C3 X3 zero33 ?_ ?_ ?_ rfl ?_ hC3.size hC3.one ?_); exact rfl; exact rfl; exact rfl; exact rfl; rw [HZ.out])
  go_quiet ((go_at_call 8; exact Calls.quiet_of_same (level_any _ _)))
  have hgC4 : (Z.drewN nq).heap[X3.heap.size]? = some (.cells C3 33) := hgC3
  have hB4 : Below w.heap.size w (Z.drewN nq) := below_drewN hB3 nq
  generalize Z.drewN nq = Z2 at *
  clear hgC3 hB3 HZ HgF f15 f17 u15 hlt
  have hC4 := hC3
  obtain ⟨cs, rfl⟩ : ∃ cs : List Value, C3 = cs.toArray := ⟨C3.toList, rfl⟩
  have hcs : cs.length = 21 := by have := hC3.size; simpa using this
  have sok : ∀ W, Below Z2.heap.size Z2 W → (W.cell? ⟨X3.heap.size, 15, none⟩ = some (.int .i64 0) ∧ (loadCellsFrom ⟨X3.heap.size, 0, none⟩ 0 21 #[]).run Try.prog W = .ok cs.toArray W) := fun W hb =>
    ⟨cell_in (kept hb hgC4) hC3.net, cells33 W _ cs hcs (fun j v hv => cell_in (kept hb hgC4) (by simpa using hv))⟩
  clear hcs
  have b0 : Below Z2.heap.size Z2 Z2.drew := (Below.refl _ _).drew
  have b1 : Below Z2.heap.size Z2 (Z2.drew.alloc (.cells cs.toArray 33)) := (Below.refl _ _).drew.alloc (Nat.le_refl _) _
  go_wp2_with (go_at_call 9; refine (toward_same _ _).mono ?_; rintro e w' ⟨rfl, rfl⟩)
  go_region_held3 (fun W => W.cell? ⟨X3.heap.size, 15, none⟩ = some (.int .i64 0) ∧ (loadCellsFrom ⟨X3.heap.size, 0, none⟩ 0 21 #[]).run Try.prog W = .ok cs.toArray W) (first | exact sok _ b0 | exact sok _ b1) (first | (go_at_call 9; refine (toward_same _ _).mono ?_; rintro e w' ⟨rfl, rfl⟩) | (go_at_call 8; refine (level_same _ _).mono ?_; rintro e w' ⟨rfl, rfl⟩) | (go_at_call 12; refine (stopped_any hC3 _).mono ?_; rintro e w' ⟨rfl, rfl⟩))
  go_wp2
  go_ret
  exact ⟨rfl, by first | exact (below_trans hB4 (below_new _ _)).drew | exact below_trans hB4.drew (below_new _ _)⟩

set_option maxHeartbeats 4000000 in
set_option maxRecDepth 100000 in
theorem regain_ft1 (F : Array Value) (w : World) (hF : Fields F 1 true) :
    Calls Try.prog 4 #[.agg F, .bool false] w fun e w' => e = .returned (.bool true) ∧ Below w.heap.size w w' := by
  have hg0 : (w.alloc (.cells F 23)).heap[w.heap.size]? = some (.cells F 23) := heap_alloc_new w _
  have hb0 : Below w.heap.size w (w.alloc (.cells F 23)) := below_new _ _
  have hS := hF.size
  have HS : Hid (F.size = 18) := hS
  clear hS
  go_enter Try.func4, Try.ntmps4
  go_wp2_with ((with_reducible refine ld23 w.heap.size F ?_ HS.out hg0 ?_); exact rfl)
  refine (hF.b13 false _).mono ?_
  rintro e W1 ⟨⟨b, rfl⟩, hb1⟩
  have hg1 := kept hb1 hg0
  have hB1 := below_trans hb0 hb1
  clear hg0 hb0 hb1
  cases b with
  | false =>
    go_wp2
    go_ret
    exact ⟨rfl, hB1⟩
  | true =>
  go_wp2_with ((with_reducible refine ld23 w.heap.size F ?_ HS.out hg1 ?_); exact rfl)
  refine (hF.b6 _).mono ?_
  rintro e W2 ⟨⟨b, rfl⟩, hb2⟩
  have hg2 := kept hb2 hg1
  have hB2 := below_trans hB1 hb2
  clear hg1 hB1 hb2
  cases b with
  | true =>
    go_wp2
    go_ret
    exact ⟨rfl, hB2⟩
  | false =>
  go_wp2_with ((with_reducible refine ld23 w.heap.size F ?_ HS.out hg2 ?_); exact rfl)
  refine (hF.build _).mono ?_
  rintro e X0 ⟨C0, rfl, hC0, hb3⟩
  have hgF0 := kept (below_new X0 (.cells C0 33)) (kept hb3 hg2)
  have hB0 := below_trans (below_trans hB2 hb3) (below_new X0 (.cells C0 33))
  have hgC0 : (X0.alloc (.cells C0 33)).heap[X0.heap.size]? = some (.cells C0 33) := heap_alloc_new X0 _
  clear hg2 hB2 hb3
  go_wp2_with (first | ((with_reducible refine st33n X0.heap.size C0 X0 zero33 ?_ ?_ ?_ rfl ?_ hC0.size hC0.one ?_); exact rfl; exact rfl; exact rfl; exact rfl) | ((with_reducible refine ld33 X0.heap.size C0 ?_ hC0.size hgC0 ?_); exact rfl))
  refine (due_val hC0 false { data := #[115, 116, 111, 112] } rfl _).mono ?_
  rintro e Y0 ⟨rfl, hd0⟩
  have hgD0 := kept hd0 hgC0
  have hgF0' := kept hd0 hgF0
  have hD0 := below_trans hB0 hd0
  clear hgC0 hgF0 hB0 hd0
  go_wp2_with ((with_reducible refine ld33 X0.heap.size C0 ?_ hC0.size hgD0 ?_); exact rfl)
  refine (apply_stop hC0 _).mono ?_
  rintro e X1 ⟨C1, rfl, hC1, he0⟩
  have hgF1 := kept (below_new X1 (.cells C1 33)) (kept he0 hgF0')
  have hB1 := below_trans (below_trans hD0 he0) (below_new X1 (.cells C1 33))
  have hgC1 : (X1.alloc (.cells C1 33)).heap[X1.heap.size]? = some (.cells C1 33) := heap_alloc_new X1 _
  clear hgD0 hgF0' hD0 he0
  go_wp2_with (first | ((with_reducible refine st33n X1.heap.size C1 X1 zero33 ?_ ?_ ?_ rfl ?_ hC1.size hC1.one ?_); exact rfl; exact rfl; exact rfl; exact rfl) | ((with_reducible refine ld33 X1.heap.size C1 ?_ hC1.size hgC1 ?_); exact rfl))
  refine (due_val hC1 true { data := #[114, 101, 115, 117, 109, 101] } rfl _).mono ?_
  rintro e Y1 ⟨rfl, hd1⟩
  have hgD1 := kept hd1 hgC1
  have hgF1' := kept hd1 hgF1
  have hD1 := below_trans hB1 hd1
  clear hgC1 hgF1 hB1 hd1
  go_wp2_with ((with_reducible refine ld33 X1.heap.size C1 ?_ hC1.size hgD1 ?_); exact rfl)
  refine (apply_resume hC1 _).mono ?_
  rintro e X2 ⟨C2, rfl, hC2, he1⟩
  have hgF2 := kept (below_new X2 (.cells C2 33)) (kept he1 hgF1')
  have hB2 := below_trans (below_trans hD1 he1) (below_new X2 (.cells C2 33))
  have hgC2 : (X2.alloc (.cells C2 33)).heap[X2.heap.size]? = some (.cells C2 33) := heap_alloc_new X2 _
  clear hgD1 hgF1' hD1 he1
  go_wp2_with (first | ((with_reducible refine st33n X2.heap.size C2 X2 zero33 ?_ ?_ ?_ rfl ?_ hC2.size hC2.one ?_); exact rfl; exact rfl; exact rfl; exact rfl) | ((with_reducible refine ld33 X2.heap.size C2 ?_ hC2.size hgC2 ?_); exact rfl))
  refine (due_val hC2 false { data := #[115, 116, 111, 112] } rfl _).mono ?_
  rintro e Y2 ⟨rfl, hd2⟩
  have hgD2 := kept hd2 hgC2
  have hgF2' := kept hd2 hgF2
  have hD2 := below_trans hB2 hd2
  clear hgC2 hgF2 hB2 hd2
  go_wp2_with ((with_reducible refine ld33 X2.heap.size C2 ?_ hC2.size hgD2 ?_); exact rfl)
  refine (apply_stop hC2 _).mono ?_
  rintro e X3 ⟨C3, rfl, hC3, he2⟩
  have hgF3 := kept (below_new X3 (.cells C3 33)) (kept he2 hgF2')
  have hB3 := below_trans (below_trans hD2 he2) (below_new X3 (.cells C3 33))
  have hgC3 : (X3.alloc (.cells C3 33)).heap[X3.heap.size]? = some (.cells C3 33) := heap_alloc_new X3 _
  clear hgD2 hgF2' hD2 he2
  have f15 := cell_in hgF3 hF.fnet
  have f17 := cell_in hgF3 hF.fact
  have u15 := cell_in hgC3 hC3.net
  have hlt : w.heap.size < X3.heap.size + 1 := by have := lt_of_heap hgF3; simpa using this
  have HgF : Hid ((X3.alloc (.cells C3 33)).heap[w.heap.size]? = some (.cells F 23)) := hgF3
  clear hgF3
  obtain ⟨Z, HZ⟩ : ∃ Z, Hid (X3.alloc (.cells C3 33) = Z) := ⟨_, rfl⟩
  rw [HZ.out] at f15 f17 u15 hB3 hgC3
  go_wp2_with ((with_reducible refine st33n X3.heap.size C3 X3 zero33 ?_ ?_ ?_ rfl ?_ hC3.size hC3.one ?_); exact rfl; exact rfl; exact rfl; exact rfl; rw [HZ.out])
  go_quiet ((go_at_call 8; exact Calls.quiet_of_same (level_any _ _)))
  have hgC4 : (Z.drewN nq).heap[X3.heap.size]? = some (.cells C3 33) := hgC3
  have hB4 : Below w.heap.size w (Z.drewN nq) := below_drewN hB3 nq
  generalize Z.drewN nq = Z2 at *
  clear hgC3 hB3 HZ HgF f15 f17 u15 hlt
  have hC4 := hC3
  obtain ⟨cs, rfl⟩ : ∃ cs : List Value, C3 = cs.toArray := ⟨C3.toList, rfl⟩
  have hcs : cs.length = 21 := by have := hC3.size; simpa using this
  have sok : ∀ W, Below Z2.heap.size Z2 W → (W.cell? ⟨X3.heap.size, 15, none⟩ = some (.int .i64 0) ∧ (loadCellsFrom ⟨X3.heap.size, 0, none⟩ 0 21 #[]).run Try.prog W = .ok cs.toArray W) := fun W hb =>
    ⟨cell_in (kept hb hgC4) hC3.net, cells33 W _ cs hcs (fun j v hv => cell_in (kept hb hgC4) (by simpa using hv))⟩
  clear hcs
  have b0 : Below Z2.heap.size Z2 Z2.drew := (Below.refl _ _).drew
  have b1 : Below Z2.heap.size Z2 (Z2.drew.alloc (.cells cs.toArray 33)) := (Below.refl _ _).drew.alloc (Nat.le_refl _) _
  go_wp2_with (go_at_call 9; refine (toward_same _ _).mono ?_; rintro e w' ⟨rfl, rfl⟩)
  go_region_held3 (fun W => W.cell? ⟨X3.heap.size, 15, none⟩ = some (.int .i64 0) ∧ (loadCellsFrom ⟨X3.heap.size, 0, none⟩ 0 21 #[]).run Try.prog W = .ok cs.toArray W) (first | exact sok _ b0 | exact sok _ b1) (first | (go_at_call 9; refine (toward_same _ _).mono ?_; rintro e w' ⟨rfl, rfl⟩) | (go_at_call 8; refine (level_same _ _).mono ?_; rintro e w' ⟨rfl, rfl⟩) | (go_at_call 12; refine (stopped_any hC3 _).mono ?_; rintro e w' ⟨rfl, rfl⟩))
  go_wp2
  go_ret
  exact ⟨rfl, by first | exact (below_trans hB4 (below_new _ _)).drew | exact below_trans hB4.drew (below_new _ _)⟩

set_option maxHeartbeats 4000000 in
set_option maxRecDepth 100000 in
theorem regain_ftx (F : Array Value) (net : Int) (w : World) (hF : Fields F net true) (n0 : (net == 0) = false) (n1 : (net == 1) = false) :
    Calls Try.prog 4 #[.agg F, .bool false] w fun e w' => e = .returned (.bool true) ∧ Below w.heap.size w w' := by
  have hg0 : (w.alloc (.cells F 23)).heap[w.heap.size]? = some (.cells F 23) := heap_alloc_new w _
  have hb0 : Below w.heap.size w (w.alloc (.cells F 23)) := below_new _ _
  have hS := hF.size
  have HS : Hid (F.size = 18) := hS
  clear hS
  go_enter Try.func4, Try.ntmps4
  go_wp2_with ((with_reducible refine ld23 w.heap.size F ?_ HS.out hg0 ?_); exact rfl)
  refine (hF.b13 false _).mono ?_
  rintro e W1 ⟨⟨b, rfl⟩, hb1⟩
  have hg1 := kept hb1 hg0
  have hB1 := below_trans hb0 hb1
  clear hg0 hb0 hb1
  cases b with
  | false =>
    go_wp2
    go_ret
    exact ⟨rfl, hB1⟩
  | true =>
  go_wp2_with ((with_reducible refine ld23 w.heap.size F ?_ HS.out hg1 ?_); exact rfl)
  refine (hF.b6 _).mono ?_
  rintro e W2 ⟨⟨b, rfl⟩, hb2⟩
  have hg2 := kept hb2 hg1
  have hB2 := below_trans hB1 hb2
  clear hg1 hB1 hb2
  cases b with
  | true =>
    go_wp2
    go_ret
    exact ⟨rfl, hB2⟩
  | false =>
  go_wp2_with ((with_reducible refine ld23 w.heap.size F ?_ HS.out hg2 ?_); exact rfl)
  refine (hF.build _).mono ?_
  rintro e X0 ⟨C0, rfl, hC0, hb3⟩
  have hgF0 := kept (below_new X0 (.cells C0 33)) (kept hb3 hg2)
  have hB0 := below_trans (below_trans hB2 hb3) (below_new X0 (.cells C0 33))
  have hgC0 : (X0.alloc (.cells C0 33)).heap[X0.heap.size]? = some (.cells C0 33) := heap_alloc_new X0 _
  clear hg2 hB2 hb3
  go_wp2_with (first | ((with_reducible refine st33n X0.heap.size C0 X0 zero33 ?_ ?_ ?_ rfl ?_ hC0.size hC0.one ?_); exact rfl; exact rfl; exact rfl; exact rfl) | ((with_reducible refine ld33 X0.heap.size C0 ?_ hC0.size hgC0 ?_); exact rfl))
  refine (due_val hC0 false { data := #[] } (due_x n0 n1) _).mono ?_
  rintro e Y0 ⟨rfl, hd0⟩
  have hgD0 := kept hd0 hgC0
  have hgF0' := kept hd0 hgF0
  have hD0 := below_trans hB0 hd0
  clear hgC0 hgF0 hB0 hd0
  go_wp2_with ((with_reducible refine ld33 X0.heap.size C0 ?_ hC0.size hgD0 ?_); exact rfl)
  refine (apply_none hC0 _).mono ?_
  rintro e X1 ⟨C1, rfl, hC1, he0⟩
  have hgF1 := kept (below_new X1 (.cells C1 33)) (kept he0 hgF0')
  have hB1 := below_trans (below_trans hD0 he0) (below_new X1 (.cells C1 33))
  have hgC1 : (X1.alloc (.cells C1 33)).heap[X1.heap.size]? = some (.cells C1 33) := heap_alloc_new X1 _
  clear hgD0 hgF0' hD0 he0
  go_wp2_with (first | ((with_reducible refine st33n X1.heap.size C1 X1 zero33 ?_ ?_ ?_ rfl ?_ hC1.size hC1.one ?_); exact rfl; exact rfl; exact rfl; exact rfl) | ((with_reducible refine ld33 X1.heap.size C1 ?_ hC1.size hgC1 ?_); exact rfl))
  refine (due_val hC1 true { data := #[] } (due_x n0 n1) _).mono ?_
  rintro e Y1 ⟨rfl, hd1⟩
  have hgD1 := kept hd1 hgC1
  have hgF1' := kept hd1 hgF1
  have hD1 := below_trans hB1 hd1
  clear hgC1 hgF1 hB1 hd1
  go_wp2_with ((with_reducible refine ld33 X1.heap.size C1 ?_ hC1.size hgD1 ?_); exact rfl)
  refine (apply_none hC1 _).mono ?_
  rintro e X2 ⟨C2, rfl, hC2, he1⟩
  have hgF2 := kept (below_new X2 (.cells C2 33)) (kept he1 hgF1')
  have hB2 := below_trans (below_trans hD1 he1) (below_new X2 (.cells C2 33))
  have hgC2 : (X2.alloc (.cells C2 33)).heap[X2.heap.size]? = some (.cells C2 33) := heap_alloc_new X2 _
  clear hgD1 hgF1' hD1 he1
  go_wp2_with (first | ((with_reducible refine st33n X2.heap.size C2 X2 zero33 ?_ ?_ ?_ rfl ?_ hC2.size hC2.one ?_); exact rfl; exact rfl; exact rfl; exact rfl) | ((with_reducible refine ld33 X2.heap.size C2 ?_ hC2.size hgC2 ?_); exact rfl))
  refine (due_val hC2 false { data := #[] } (due_x n0 n1) _).mono ?_
  rintro e Y2 ⟨rfl, hd2⟩
  have hgD2 := kept hd2 hgC2
  have hgF2' := kept hd2 hgF2
  have hD2 := below_trans hB2 hd2
  clear hgC2 hgF2 hB2 hd2
  go_wp2_with ((with_reducible refine ld33 X2.heap.size C2 ?_ hC2.size hgD2 ?_); exact rfl)
  refine (apply_none hC2 _).mono ?_
  rintro e X3 ⟨C3, rfl, hC3, he2⟩
  have hgF3 := kept (below_new X3 (.cells C3 33)) (kept he2 hgF2')
  have hB3 := below_trans (below_trans hD2 he2) (below_new X3 (.cells C3 33))
  have hgC3 : (X3.alloc (.cells C3 33)).heap[X3.heap.size]? = some (.cells C3 33) := heap_alloc_new X3 _
  clear hgD2 hgF2' hD2 he2
  have f15 := cell_in hgF3 hF.fnet
  have f17 := cell_in hgF3 hF.fact
  have u15 := cell_in hgC3 hC3.net
  have hlt : w.heap.size < X3.heap.size + 1 := by have := lt_of_heap hgF3; simpa using this
  have HgF : Hid ((X3.alloc (.cells C3 33)).heap[w.heap.size]? = some (.cells F 23)) := hgF3
  clear hgF3
  obtain ⟨Z, HZ⟩ : ∃ Z, Hid (X3.alloc (.cells C3 33) = Z) := ⟨_, rfl⟩
  rw [HZ.out] at f15 f17 u15 hB3 hgC3
  go_wp2_with ((with_reducible refine st33n X3.heap.size C3 X3 zero33 ?_ ?_ ?_ rfl ?_ hC3.size hC3.one ?_); exact rfl; exact rfl; exact rfl; exact rfl; rw [HZ.out])
  go_ret
  exact ⟨rfl, hB3⟩

set_option maxHeartbeats 4000000 in
set_option maxRecDepth 100000 in
theorem regain_ff0 (F : Array Value) (w : World) (hF : Fields F 0 false) :
    Calls Try.prog 4 #[.agg F, .bool false] w fun e w' => e = .returned (.bool true) ∧ Below w.heap.size w w' := by
  have hg0 : (w.alloc (.cells F 23)).heap[w.heap.size]? = some (.cells F 23) := heap_alloc_new w _
  have hb0 : Below w.heap.size w (w.alloc (.cells F 23)) := below_new _ _
  have hS := hF.size
  have HS : Hid (F.size = 18) := hS
  clear hS
  go_enter Try.func4, Try.ntmps4
  go_wp2_with ((with_reducible refine ld23 w.heap.size F ?_ HS.out hg0 ?_); exact rfl)
  refine (hF.b13 false _).mono ?_
  rintro e W1 ⟨⟨b, rfl⟩, hb1⟩
  have hg1 := kept hb1 hg0
  have hB1 := below_trans hb0 hb1
  clear hg0 hb0 hb1
  cases b with
  | false =>
    go_wp2
    go_ret
    exact ⟨rfl, hB1⟩
  | true =>
  go_wp2_with ((with_reducible refine ld23 w.heap.size F ?_ HS.out hg1 ?_); exact rfl)
  refine (hF.b6 _).mono ?_
  rintro e W2 ⟨⟨b, rfl⟩, hb2⟩
  have hg2 := kept hb2 hg1
  have hB2 := below_trans hB1 hb2
  clear hg1 hB1 hb2
  cases b with
  | true =>
    go_wp2
    go_ret
    exact ⟨rfl, hB2⟩
  | false =>
  go_wp2_with ((with_reducible refine ld23 w.heap.size F ?_ HS.out hg2 ?_); exact rfl)
  refine (hF.build _).mono ?_
  rintro e X0 ⟨C0, rfl, hC0, hb3⟩
  have hgF0 := kept (below_new X0 (.cells C0 33)) (kept hb3 hg2)
  have hB0 := below_trans (below_trans hB2 hb3) (below_new X0 (.cells C0 33))
  have hgC0 : (X0.alloc (.cells C0 33)).heap[X0.heap.size]? = some (.cells C0 33) := heap_alloc_new X0 _
  clear hg2 hB2 hb3
  go_wp2_with (first | ((with_reducible refine st33n X0.heap.size C0 X0 zero33 ?_ ?_ ?_ rfl ?_ hC0.size hC0.one ?_); exact rfl; exact rfl; exact rfl; exact rfl) | ((with_reducible refine ld33 X0.heap.size C0 ?_ hC0.size hgC0 ?_); exact rfl))
  refine (due_val hC0 false { data := #[] } rfl _).mono ?_
  rintro e Y0 ⟨rfl, hd0⟩
  have hgD0 := kept hd0 hgC0
  have hgF0' := kept hd0 hgF0
  have hD0 := below_trans hB0 hd0
  clear hgC0 hgF0 hB0 hd0
  go_wp2_with ((with_reducible refine ld33 X0.heap.size C0 ?_ hC0.size hgD0 ?_); exact rfl)
  refine (apply_none hC0 _).mono ?_
  rintro e X1 ⟨C1, rfl, hC1, he0⟩
  have hgF1 := kept (below_new X1 (.cells C1 33)) (kept he0 hgF0')
  have hB1 := below_trans (below_trans hD0 he0) (below_new X1 (.cells C1 33))
  have hgC1 : (X1.alloc (.cells C1 33)).heap[X1.heap.size]? = some (.cells C1 33) := heap_alloc_new X1 _
  clear hgD0 hgF0' hD0 he0
  go_wp2_with (first | ((with_reducible refine st33n X1.heap.size C1 X1 zero33 ?_ ?_ ?_ rfl ?_ hC1.size hC1.one ?_); exact rfl; exact rfl; exact rfl; exact rfl) | ((with_reducible refine ld33 X1.heap.size C1 ?_ hC1.size hgC1 ?_); exact rfl))
  refine (due_val hC1 true { data := #[] } rfl _).mono ?_
  rintro e Y1 ⟨rfl, hd1⟩
  have hgD1 := kept hd1 hgC1
  have hgF1' := kept hd1 hgF1
  have hD1 := below_trans hB1 hd1
  clear hgC1 hgF1 hB1 hd1
  go_wp2_with ((with_reducible refine ld33 X1.heap.size C1 ?_ hC1.size hgD1 ?_); exact rfl)
  refine (apply_none hC1 _).mono ?_
  rintro e X2 ⟨C2, rfl, hC2, he1⟩
  have hgF2 := kept (below_new X2 (.cells C2 33)) (kept he1 hgF1')
  have hB2 := below_trans (below_trans hD1 he1) (below_new X2 (.cells C2 33))
  have hgC2 : (X2.alloc (.cells C2 33)).heap[X2.heap.size]? = some (.cells C2 33) := heap_alloc_new X2 _
  clear hgD1 hgF1' hD1 he1
  go_wp2_with (first | ((with_reducible refine st33n X2.heap.size C2 X2 zero33 ?_ ?_ ?_ rfl ?_ hC2.size hC2.one ?_); exact rfl; exact rfl; exact rfl; exact rfl) | ((with_reducible refine ld33 X2.heap.size C2 ?_ hC2.size hgC2 ?_); exact rfl))
  refine (due_val hC2 false { data := #[] } rfl _).mono ?_
  rintro e Y2 ⟨rfl, hd2⟩
  have hgD2 := kept hd2 hgC2
  have hgF2' := kept hd2 hgF2
  have hD2 := below_trans hB2 hd2
  clear hgC2 hgF2 hB2 hd2
  go_wp2_with ((with_reducible refine ld33 X2.heap.size C2 ?_ hC2.size hgD2 ?_); exact rfl)
  refine (apply_none hC2 _).mono ?_
  rintro e X3 ⟨C3, rfl, hC3, he2⟩
  have hgF3 := kept (below_new X3 (.cells C3 33)) (kept he2 hgF2')
  have hB3 := below_trans (below_trans hD2 he2) (below_new X3 (.cells C3 33))
  have hgC3 : (X3.alloc (.cells C3 33)).heap[X3.heap.size]? = some (.cells C3 33) := heap_alloc_new X3 _
  clear hgD2 hgF2' hD2 he2
  have f15 := cell_in hgF3 hF.fnet
  have f17 := cell_in hgF3 hF.fact
  have u15 := cell_in hgC3 hC3.net
  have hlt : w.heap.size < X3.heap.size + 1 := by have := lt_of_heap hgF3; simpa using this
  have HgF : Hid ((X3.alloc (.cells C3 33)).heap[w.heap.size]? = some (.cells F 23)) := hgF3
  clear hgF3
  obtain ⟨Z, HZ⟩ : ∃ Z, Hid (X3.alloc (.cells C3 33) = Z) := ⟨_, rfl⟩
  rw [HZ.out] at f15 f17 u15 hB3 hgC3
  go_wp2_with (first | ((with_reducible refine st33n X3.heap.size C3 X3 zero33 ?_ ?_ ?_ rfl ?_ hC3.size hC3.one ?_); exact rfl; exact rfl; exact rfl; exact rfl; rw [HZ.out]) | ((with_reducible refine ld33g X3.heap.size C3 ?_ ?_ hC3.size hgC3 ?_); exact rfl; exact rfl) | (go_at_call 12; refine (stopped_any hC3 _).mono ?_; rintro e w' ⟨rfl, rfl⟩))
  go_ret
  exact ⟨rfl, below_trans hB3 (below_new _ _)⟩

set_option maxHeartbeats 4000000 in
set_option maxRecDepth 100000 in
theorem regain_ff1 (F : Array Value) (w : World) (hF : Fields F 1 false) :
    Calls Try.prog 4 #[.agg F, .bool false] w fun e w' => e = .returned (.bool true) ∧ Below w.heap.size w w' := by
  have hg0 : (w.alloc (.cells F 23)).heap[w.heap.size]? = some (.cells F 23) := heap_alloc_new w _
  have hb0 : Below w.heap.size w (w.alloc (.cells F 23)) := below_new _ _
  have hS := hF.size
  have HS : Hid (F.size = 18) := hS
  clear hS
  go_enter Try.func4, Try.ntmps4
  go_wp2_with ((with_reducible refine ld23 w.heap.size F ?_ HS.out hg0 ?_); exact rfl)
  refine (hF.b13 false _).mono ?_
  rintro e W1 ⟨⟨b, rfl⟩, hb1⟩
  have hg1 := kept hb1 hg0
  have hB1 := below_trans hb0 hb1
  clear hg0 hb0 hb1
  cases b with
  | false =>
    go_wp2
    go_ret
    exact ⟨rfl, hB1⟩
  | true =>
  go_wp2_with ((with_reducible refine ld23 w.heap.size F ?_ HS.out hg1 ?_); exact rfl)
  refine (hF.b6 _).mono ?_
  rintro e W2 ⟨⟨b, rfl⟩, hb2⟩
  have hg2 := kept hb2 hg1
  have hB2 := below_trans hB1 hb2
  clear hg1 hB1 hb2
  cases b with
  | true =>
    go_wp2
    go_ret
    exact ⟨rfl, hB2⟩
  | false =>
  go_wp2_with ((with_reducible refine ld23 w.heap.size F ?_ HS.out hg2 ?_); exact rfl)
  refine (hF.build _).mono ?_
  rintro e X0 ⟨C0, rfl, hC0, hb3⟩
  have hgF0 := kept (below_new X0 (.cells C0 33)) (kept hb3 hg2)
  have hB0 := below_trans (below_trans hB2 hb3) (below_new X0 (.cells C0 33))
  have hgC0 : (X0.alloc (.cells C0 33)).heap[X0.heap.size]? = some (.cells C0 33) := heap_alloc_new X0 _
  clear hg2 hB2 hb3
  go_wp2_with (first | ((with_reducible refine st33n X0.heap.size C0 X0 zero33 ?_ ?_ ?_ rfl ?_ hC0.size hC0.one ?_); exact rfl; exact rfl; exact rfl; exact rfl) | ((with_reducible refine ld33 X0.heap.size C0 ?_ hC0.size hgC0 ?_); exact rfl))
  refine (due_val hC0 false { data := #[115, 116, 111, 112] } rfl _).mono ?_
  rintro e Y0 ⟨rfl, hd0⟩
  have hgD0 := kept hd0 hgC0
  have hgF0' := kept hd0 hgF0
  have hD0 := below_trans hB0 hd0
  clear hgC0 hgF0 hB0 hd0
  go_wp2_with ((with_reducible refine ld33 X0.heap.size C0 ?_ hC0.size hgD0 ?_); exact rfl)
  refine (apply_stop hC0 _).mono ?_
  rintro e X1 ⟨C1, rfl, hC1, he0⟩
  have hgF1 := kept (below_new X1 (.cells C1 33)) (kept he0 hgF0')
  have hB1 := below_trans (below_trans hD0 he0) (below_new X1 (.cells C1 33))
  have hgC1 : (X1.alloc (.cells C1 33)).heap[X1.heap.size]? = some (.cells C1 33) := heap_alloc_new X1 _
  clear hgD0 hgF0' hD0 he0
  go_wp2_with (first | ((with_reducible refine st33n X1.heap.size C1 X1 zero33 ?_ ?_ ?_ rfl ?_ hC1.size hC1.one ?_); exact rfl; exact rfl; exact rfl; exact rfl) | ((with_reducible refine ld33 X1.heap.size C1 ?_ hC1.size hgC1 ?_); exact rfl))
  refine (due_val hC1 true { data := #[] } rfl _).mono ?_
  rintro e Y1 ⟨rfl, hd1⟩
  have hgD1 := kept hd1 hgC1
  have hgF1' := kept hd1 hgF1
  have hD1 := below_trans hB1 hd1
  clear hgC1 hgF1 hB1 hd1
  go_wp2_with ((with_reducible refine ld33 X1.heap.size C1 ?_ hC1.size hgD1 ?_); exact rfl)
  refine (apply_none hC1 _).mono ?_
  rintro e X2 ⟨C2, rfl, hC2, he1⟩
  have hgF2 := kept (below_new X2 (.cells C2 33)) (kept he1 hgF1')
  have hB2 := below_trans (below_trans hD1 he1) (below_new X2 (.cells C2 33))
  have hgC2 : (X2.alloc (.cells C2 33)).heap[X2.heap.size]? = some (.cells C2 33) := heap_alloc_new X2 _
  clear hgD1 hgF1' hD1 he1
  go_wp2_with (first | ((with_reducible refine st33n X2.heap.size C2 X2 zero33 ?_ ?_ ?_ rfl ?_ hC2.size hC2.one ?_); exact rfl; exact rfl; exact rfl; exact rfl) | ((with_reducible refine ld33 X2.heap.size C2 ?_ hC2.size hgC2 ?_); exact rfl))
  refine (due_val hC2 false { data := #[] } rfl _).mono ?_
  rintro e Y2 ⟨rfl, hd2⟩
  have hgD2 := kept hd2 hgC2
  have hgF2' := kept hd2 hgF2
  have hD2 := below_trans hB2 hd2
  clear hgC2 hgF2 hB2 hd2
  go_wp2_with ((with_reducible refine ld33 X2.heap.size C2 ?_ hC2.size hgD2 ?_); exact rfl)
  refine (apply_none hC2 _).mono ?_
  rintro e X3 ⟨C3, rfl, hC3, he2⟩
  have hgF3 := kept (below_new X3 (.cells C3 33)) (kept he2 hgF2')
  have hB3 := below_trans (below_trans hD2 he2) (below_new X3 (.cells C3 33))
  have hgC3 : (X3.alloc (.cells C3 33)).heap[X3.heap.size]? = some (.cells C3 33) := heap_alloc_new X3 _
  clear hgD2 hgF2' hD2 he2
  have f15 := cell_in hgF3 hF.fnet
  have f17 := cell_in hgF3 hF.fact
  have u15 := cell_in hgC3 hC3.net
  have hlt : w.heap.size < X3.heap.size + 1 := by have := lt_of_heap hgF3; simpa using this
  have HgF : Hid ((X3.alloc (.cells C3 33)).heap[w.heap.size]? = some (.cells F 23)) := hgF3
  clear hgF3
  obtain ⟨Z, HZ⟩ : ∃ Z, Hid (X3.alloc (.cells C3 33) = Z) := ⟨_, rfl⟩
  rw [HZ.out] at f15 f17 u15 hB3 hgC3
  go_wp2_with (first | ((with_reducible refine st33n X3.heap.size C3 X3 zero33 ?_ ?_ ?_ rfl ?_ hC3.size hC3.one ?_); exact rfl; exact rfl; exact rfl; exact rfl; rw [HZ.out]) | ((with_reducible refine ld33g X3.heap.size C3 ?_ ?_ hC3.size hgC3 ?_); exact rfl; exact rfl) | (go_at_call 12; refine (stopped_any hC3 _).mono ?_; rintro e w' ⟨rfl, rfl⟩))
  go_ret
  exact ⟨rfl, below_trans hB3 (below_new _ _)⟩

set_option maxHeartbeats 4000000 in
set_option maxRecDepth 100000 in
theorem regain_ffx (F : Array Value) (net : Int) (w : World) (hF : Fields F net false) (n0 : (net == 0) = false) (n1 : (net == 1) = false) :
    Calls Try.prog 4 #[.agg F, .bool false] w fun e w' => e = .returned (.bool true) ∧ Below w.heap.size w w' := by
  have hg0 : (w.alloc (.cells F 23)).heap[w.heap.size]? = some (.cells F 23) := heap_alloc_new w _
  have hb0 : Below w.heap.size w (w.alloc (.cells F 23)) := below_new _ _
  have hS := hF.size
  have HS : Hid (F.size = 18) := hS
  clear hS
  go_enter Try.func4, Try.ntmps4
  go_wp2_with ((with_reducible refine ld23 w.heap.size F ?_ HS.out hg0 ?_); exact rfl)
  refine (hF.b13 false _).mono ?_
  rintro e W1 ⟨⟨b, rfl⟩, hb1⟩
  have hg1 := kept hb1 hg0
  have hB1 := below_trans hb0 hb1
  clear hg0 hb0 hb1
  cases b with
  | false =>
    go_wp2
    go_ret
    exact ⟨rfl, hB1⟩
  | true =>
  go_wp2_with ((with_reducible refine ld23 w.heap.size F ?_ HS.out hg1 ?_); exact rfl)
  refine (hF.b6 _).mono ?_
  rintro e W2 ⟨⟨b, rfl⟩, hb2⟩
  have hg2 := kept hb2 hg1
  have hB2 := below_trans hB1 hb2
  clear hg1 hB1 hb2
  cases b with
  | true =>
    go_wp2
    go_ret
    exact ⟨rfl, hB2⟩
  | false =>
  go_wp2_with ((with_reducible refine ld23 w.heap.size F ?_ HS.out hg2 ?_); exact rfl)
  refine (hF.build _).mono ?_
  rintro e X0 ⟨C0, rfl, hC0, hb3⟩
  have hgF0 := kept (below_new X0 (.cells C0 33)) (kept hb3 hg2)
  have hB0 := below_trans (below_trans hB2 hb3) (below_new X0 (.cells C0 33))
  have hgC0 : (X0.alloc (.cells C0 33)).heap[X0.heap.size]? = some (.cells C0 33) := heap_alloc_new X0 _
  clear hg2 hB2 hb3
  go_wp2_with (first | ((with_reducible refine st33n X0.heap.size C0 X0 zero33 ?_ ?_ ?_ rfl ?_ hC0.size hC0.one ?_); exact rfl; exact rfl; exact rfl; exact rfl) | ((with_reducible refine ld33 X0.heap.size C0 ?_ hC0.size hgC0 ?_); exact rfl))
  refine (due_val hC0 false { data := #[] } (due_x n0 n1) _).mono ?_
  rintro e Y0 ⟨rfl, hd0⟩
  have hgD0 := kept hd0 hgC0
  have hgF0' := kept hd0 hgF0
  have hD0 := below_trans hB0 hd0
  clear hgC0 hgF0 hB0 hd0
  go_wp2_with ((with_reducible refine ld33 X0.heap.size C0 ?_ hC0.size hgD0 ?_); exact rfl)
  refine (apply_none hC0 _).mono ?_
  rintro e X1 ⟨C1, rfl, hC1, he0⟩
  have hgF1 := kept (below_new X1 (.cells C1 33)) (kept he0 hgF0')
  have hB1 := below_trans (below_trans hD0 he0) (below_new X1 (.cells C1 33))
  have hgC1 : (X1.alloc (.cells C1 33)).heap[X1.heap.size]? = some (.cells C1 33) := heap_alloc_new X1 _
  clear hgD0 hgF0' hD0 he0
  go_wp2_with (first | ((with_reducible refine st33n X1.heap.size C1 X1 zero33 ?_ ?_ ?_ rfl ?_ hC1.size hC1.one ?_); exact rfl; exact rfl; exact rfl; exact rfl) | ((with_reducible refine ld33 X1.heap.size C1 ?_ hC1.size hgC1 ?_); exact rfl))
  refine (due_val hC1 true { data := #[] } (due_x n0 n1) _).mono ?_
  rintro e Y1 ⟨rfl, hd1⟩
  have hgD1 := kept hd1 hgC1
  have hgF1' := kept hd1 hgF1
  have hD1 := below_trans hB1 hd1
  clear hgC1 hgF1 hB1 hd1
  go_wp2_with ((with_reducible refine ld33 X1.heap.size C1 ?_ hC1.size hgD1 ?_); exact rfl)
  refine (apply_none hC1 _).mono ?_
  rintro e X2 ⟨C2, rfl, hC2, he1⟩
  have hgF2 := kept (below_new X2 (.cells C2 33)) (kept he1 hgF1')
  have hB2 := below_trans (below_trans hD1 he1) (below_new X2 (.cells C2 33))
  have hgC2 : (X2.alloc (.cells C2 33)).heap[X2.heap.size]? = some (.cells C2 33) := heap_alloc_new X2 _
  clear hgD1 hgF1' hD1 he1
  go_wp2_with (first | ((with_reducible refine st33n X2.heap.size C2 X2 zero33 ?_ ?_ ?_ rfl ?_ hC2.size hC2.one ?_); exact rfl; exact rfl; exact rfl; exact rfl) | ((with_reducible refine ld33 X2.heap.size C2 ?_ hC2.size hgC2 ?_); exact rfl))
  refine (due_val hC2 false { data := #[] } (due_x n0 n1) _).mono ?_
  rintro e Y2 ⟨rfl, hd2⟩
  have hgD2 := kept hd2 hgC2
  have hgF2' := kept hd2 hgF2
  have hD2 := below_trans hB2 hd2
  clear hgC2 hgF2 hB2 hd2
  go_wp2_with ((with_reducible refine ld33 X2.heap.size C2 ?_ hC2.size hgD2 ?_); exact rfl)
  refine (apply_none hC2 _).mono ?_
  rintro e X3 ⟨C3, rfl, hC3, he2⟩
  have hgF3 := kept (below_new X3 (.cells C3 33)) (kept he2 hgF2')
  have hB3 := below_trans (below_trans hD2 he2) (below_new X3 (.cells C3 33))
  have hgC3 : (X3.alloc (.cells C3 33)).heap[X3.heap.size]? = some (.cells C3 33) := heap_alloc_new X3 _
  clear hgD2 hgF2' hD2 he2
  have f15 := cell_in hgF3 hF.fnet
  have f17 := cell_in hgF3 hF.fact
  have u15 := cell_in hgC3 hC3.net
  have hlt : w.heap.size < X3.heap.size + 1 := by have := lt_of_heap hgF3; simpa using this
  have HgF : Hid ((X3.alloc (.cells C3 33)).heap[w.heap.size]? = some (.cells F 23)) := hgF3
  clear hgF3
  obtain ⟨Z, HZ⟩ : ∃ Z, Hid (X3.alloc (.cells C3 33) = Z) := ⟨_, rfl⟩
  rw [HZ.out] at f15 f17 u15 hB3 hgC3
  go_wp2_with ((with_reducible refine st33n X3.heap.size C3 X3 zero33 ?_ ?_ ?_ rfl ?_ hC3.size hC3.one ?_); exact rfl; exact rfl; exact rfl; exact rfl; rw [HZ.out])
  go_ret
  exact ⟨rfl, hB3⟩

theorem regain (F : Array Value) (net : Int) (act active : Bool) (w : World) (hF : Fields F net act) :
    Calls Try.prog 4 #[.agg F, .bool active] w fun e w' => e = .returned (.bool true) ∧ Below w.heap.size w w' := by
  by_cases h0 : net = 0
  · subst h0
    cases active <;> cases act
    · exact regain_ff0 F w hF
    · exact regain_ft0 F w hF
    · exact regain_tf0 F w hF
    · exact regain_tt0 F w hF
  · by_cases h1 : net = 1
    · subst h1
      cases active <;> cases act
      · exact regain_ff1 F w hF
      · exact regain_ft1 F w hF
      · exact regain_tf1 F w hF
      · exact regain_tt1 F w hF
    · have n0 : (net == 0) = false := beq_eq_false_iff_ne.2 h0
      have n1 : (net == 1) = false := beq_eq_false_iff_ne.2 h1
      cases active <;> cases act
      · exact regain_ffx F net w hF n0 n1
      · exact regain_ftx F net w hF n0 n1
      · exact regain_tfx F net w hF n0 n1
      · exact regain_ttx F net w hF n0 n1

end Go.Proofs.Qxb6628926a.Net
