/-
  THE WALKS OF THE CARD's METHODS: Stopped, NetworkDue, applyCommand, level, toward.
-/
import Derived.Test.Qxb6628926aLaws
namespace Go.Proofs.Qxb6628926a.Net
open Go.RowKit

/-- a card's cells: its network status, and whether it was put to use -/
structure CardIs (C : Array Value) (net : Int) (act : Bool) : Prop where
  size : C.size = 21
  net : C[15]? = some (.int .i64 net)
  yes : act = true → ∃ a, C[20]? = some (.pointer (some a))
  no : act = false → C[20]? = some (.pointer none)
  one : C.all (·.oneCell') = true

/-- the command that is due -/
def due (net : Int) (act active : Bool) : ByteArray := if active then (if act && net == 0 then { data := #[114, 101, 115, 117, 109, 101] } else { data := #[] }) else (if net == 1 then { data := #[115, 116, 111, 112] } else { data := #[] })
theorem below_trans {a b c : World} (h1 : Below a.heap.size a b) (h2 : Below b.heap.size b c) : Below a.heap.size a c := h1.trans (h2.mono h1.size)
theorem below_new (w : World) (o : Obj) : Below w.heap.size w (w.alloc o) := (Below.refl _ _).alloc (Nat.le_refl _) _
theorem kept {W W' : World} {g : Nat} {o : Obj} (hb : Below W.heap.size W W') (h : W.heap[g]? = some o) : W'.heap[g]? = some o := by
  rw [hb.block g (Array.getElem?_eq_some_iff.1 h).1]; exact h
theorem ret_bool {a b : Bool} (h : a = b) : Ending.returned (.bool a) = .returned (.bool b) := by rw [h]

set_option maxHeartbeats 1000000 in
theorem stopped_nil (C : Array Value) (w : World) (h20 : C[20]? = some (.pointer none)) :
    Calls Try.prog 12 #[.agg C] w fun e w' => e = .returned (.bool false) ∧ w' = w.alloc (.cells C 33) := by
  go_enter Try.func12, Try.ntmps12
  go_wp2
  go_ret
  exact ⟨rfl, rfl⟩

set_option maxHeartbeats 1000000 in
theorem stopped_set (C : Array Value) (net : Int) (a : Addr) (w : World) (h15 : C[15]? = some (.int .i64 net)) (h20 : C[20]? = some (.pointer (some a))) :
    Calls Try.prog 12 #[.agg C] w fun e w' => e = .returned (.bool (net == 0)) ∧ w' = w.alloc (.cells C 33) := by
  go_enter Try.func12, Try.ntmps12
  go_wp2
  go_ret
  exact ⟨rfl, rfl⟩

theorem stopped_any {C : Array Value} {net : Int} {act : Bool} (h : CardIs C net act) (w : World) :
    Calls Try.prog 12 #[.agg C] w fun e w' => e = .returned (.bool (act && net == 0)) ∧ w' = w.alloc (.cells C 33) := by
  cases act with
  | false => exact stopped_nil C w (h.no rfl)
  | true =>
    obtain ⟨a, ha⟩ := h.yes rfl
    exact stopped_set C net a w h.net ha

set_option maxHeartbeats 1000000 in
theorem due_on (C : Array Value) (st : Bool) (w : World) (hC : C.size = 21) (hst : ∀ wx, Calls Try.prog 12 #[.agg C] wx fun e w' => e = .returned (.bool st) ∧ w' = wx.alloc (.cells C 33)) :
    Calls Try.prog 10 #[.agg C, .bool true] w fun e w' => e = .returned (.string (if st then { data := #[114, 101, 115, 117, 109, 101] } else { data := #[] })) ∧ Below w.heap.size w w' := by
  have HC : Hid (C.size = 21) := hC
  clear hC
  have HS : Hid (∀ wx, Calls Try.prog 12 #[.agg C] wx fun e w' => e = .returned (.bool st) ∧ w' = wx.alloc (.cells C 33)) := hst
  clear hst
  have hbel : Hid (Below w.heap.size w ((w.alloc (.cells C 33)).alloc (.cells C 33))) := below_trans (below_new _ _) (below_new _ _)
  cases st with
  | true =>
    go_enter Try.func10, Try.ntmps10
    go_wp2_with (first | ((with_reducible refine ld33g w.heap.size C ?_ ?_ HC.out ?_ ?_); exact rfl; exact rfl; exact heap_alloc_last w _) | (go_at_call 12; refine (HS.out _).mono ?_; rintro e w' ⟨rfl, rfl⟩))
    go_ret
    exact ⟨rfl, hbel.out⟩
  | false =>
    go_enter Try.func10, Try.ntmps10
    go_wp2_with (first | ((with_reducible refine ld33g w.heap.size C ?_ ?_ HC.out ?_ ?_); exact rfl; exact rfl; exact heap_alloc_last w _) | (go_at_call 12; refine (HS.out _).mono ?_; rintro e w' ⟨rfl, rfl⟩))
    go_ret
    exact ⟨rfl, hbel.out⟩

set_option maxHeartbeats 1000000 in
theorem due_off (C : Array Value) (net : Int) (w : World) (h15 : C[15]? = some (.int .i64 net)) :
    Calls Try.prog 10 #[.agg C, .bool false] w fun e w' => e = .returned (.string (if net == 1 then { data := #[115, 116, 111, 112] } else { data := #[] })) ∧ Below w.heap.size w w' := by
  cases hn : (net == 1) with
  | true =>
    go_enter Try.func10, Try.ntmps10
    go_wp2
    go_ret
    exact ⟨rfl, below_new _ _⟩
  | false =>
    go_enter Try.func10, Try.ntmps10
    go_wp2
    go_ret
    exact ⟨rfl, below_new _ _⟩

theorem due_any {C : Array Value} {net : Int} {act : Bool} (h : CardIs C net act) (active : Bool) (w : World) :
    Calls Try.prog 10 #[.agg C, .bool active] w fun e w' => e = .returned (.string (due net act active)) ∧ Below w.heap.size w w' := by
  cases active with
  | true => exact due_on C (act && net == 0) w h.size (fun wx => stopped_any h wx)
  | false => exact due_off C net w h.net

theorem due_val {C : Array Value} {net : Int} {act : Bool} (h : CardIs C net act) (active : Bool) (c : ByteArray) (hc : due net act active = c) (w : World) :
    Calls Try.prog 10 #[.agg C, .bool active] w fun e w' => e = .returned (.string c) ∧ Below w.heap.size w w' := by
  subst hc; exact due_any h active w

theorem card_put {C : Array Value} {net : Int} {act : Bool} (h : CardIs C net act) (m : Int) : CardIs (C.setIfInBounds 15 (.int .i64 m)) m act where
  size := by simp [h.size]
  net := by rw [Array.getElem?_setIfInBounds, if_pos rfl, if_pos (by rw [h.size]; omega)]
  yes := fun e => by
    obtain ⟨a, ha⟩ := h.yes e
    exact ⟨a, by rw [Array.getElem?_setIfInBounds, if_neg (by omega)]; exact ha⟩
  no := fun e => by rw [Array.getElem?_setIfInBounds, if_neg (by omega)]; exact h.no e
  one := by
    rw [Array.all_eq_true_iff_forall_mem]
    intro v hv
    rcases Array.mem_or_eq_of_mem_setIfInBounds hv with hv | rfl
    · exact Array.all_eq_true_iff_forall_mem.1 h.one v hv
    · rfl

set_option maxHeartbeats 400000 in
theorem level_any (b : Bool) (w : World) : Calls Try.prog 8 #[.bool b] w fun e w' => e = .returned (.int .i64 (if b then 1 else 0)) ∧ w' = w := by
  cases b with
  | true =>
    go_enter Try.func8, Try.ntmps8
    go_wp2
    go_ret
    exact ⟨rfl, rfl⟩
  | false =>
    go_enter Try.func8, Try.ntmps8
    go_wp2
    go_ret
    exact ⟨rfl, rfl⟩

set_option maxHeartbeats 400000 in
theorem toward_any (b : Bool) (w : World) : Calls Try.prog 9 #[.bool b] w fun e w' => e = .returned (.string (if b then { data := #[114, 101, 115, 117, 109, 101] } else { data := #[115, 116, 111, 112] })) ∧ w' = w := by
  cases b with
  | true =>
    go_enter Try.func9, Try.ntmps9
    go_wp2
    go_ret
    exact ⟨rfl, rfl⟩
  | false =>
    go_enter Try.func9, Try.ntmps9
    go_wp2
    go_ret
    exact ⟨rfl, rfl⟩

/-- a card's zero cells, as the walk lays them -/
abbrev zero33 : Array Value := #[.int .i64 0, .string { data := #[] }, .string { data := #[] }, .string { data := #[] }, .string { data := #[] }, .string { data := #[] }, .string { data := #[] }, .string { data := #[] }, .int .i64 0, .string { data := #[] }, .int .i64 0, .string { data := #[] }, .int .i64 0, .int .i64 0, .int .i64 0, .int .i64 0, .bool false, .int .u64 0, .int .i64 0, .pointer none, .pointer none]

theorem below_setRow {B : Nat} {a w : World} (h : Below B a w) {g : Nat} (hg : B ≤ g) (C : Array Value) : Below B a (w.setRow g C) :=
  h.trans ⟨rfl, rfl, rfl, by simp [World.setRow], fun k hk => setRow_other w g k C (by omega)⟩

set_option maxHeartbeats 1000000 in
theorem apply_resume {C : Array Value} {net : Int} {act : Bool} (h : CardIs C net act) (w : World) :
    Calls Try.prog 11 #[.agg C, .string { data := #[114, 101, 115, 117, 109, 101] }] w fun e w' => ∃ C', e = .returned (.agg C') ∧ CardIs C' 1 act ∧ Below w.heap.size w w' := by
  have hc := card_put h 1
  have h15 := h.net
  have hC := h.size
  go_enter Try.func11, Try.ntmps11
  go_wp2_with (first | ((with_reducible refine ld33 w.heap.size (C.setIfInBounds 15 (.int .i64 1)) ?_ hc.size ?_ ?_); exact rfl; exact heap_alloc2_old _ _ _) | ((with_reducible refine st33 (w.heap.size + 1) (C.setIfInBounds 15 (.int .i64 1)) zero33 ?_ ?_ ?_ ?_ hc.size hc.one ?_); exact rfl; exact rfl; exact heap_alloc2_new _ _ _; exact rfl))
  exact bodyPost_ret (v := .agg (C.setIfInBounds 15 (.int .i64 1))) (results_cell_row Try.results11 _ _ (w.heap.size + 1) 33 _ (0, 0) _ rfl (setRow_heap _ _ _ _ _ _ (heap_alloc2_new _ _ _)) Try.underlying33 rfl (by rw [info33, hc.size])) rfl
    ⟨_, rfl, hc, below_setRow (below_trans (below_new _ _) (below_new _ _)) (by omega) _⟩

set_option maxHeartbeats 1000000 in
theorem apply_stop {C : Array Value} {net : Int} {act : Bool} (h : CardIs C net act) (w : World) :
    Calls Try.prog 11 #[.agg C, .string { data := #[115, 116, 111, 112] }] w fun e w' => ∃ C', e = .returned (.agg C') ∧ CardIs C' 0 act ∧ Below w.heap.size w w' := by
  have hc := card_put h 0
  have h15 := h.net
  have hC := h.size
  go_enter Try.func11, Try.ntmps11
  go_wp2_with (first | ((with_reducible refine ld33 w.heap.size (C.setIfInBounds 15 (.int .i64 0)) ?_ hc.size ?_ ?_); exact rfl; exact heap_alloc2_old _ _ _) | ((with_reducible refine st33 (w.heap.size + 1) (C.setIfInBounds 15 (.int .i64 0)) zero33 ?_ ?_ ?_ ?_ hc.size hc.one ?_); exact rfl; exact rfl; exact heap_alloc2_new _ _ _; exact rfl))
  exact bodyPost_ret (v := .agg (C.setIfInBounds 15 (.int .i64 0))) (results_cell_row Try.results11 _ _ (w.heap.size + 1) 33 _ (0, 0) _ rfl (setRow_heap _ _ _ _ _ _ (heap_alloc2_new _ _ _)) Try.underlying33 rfl (by rw [info33, hc.size])) rfl
    ⟨_, rfl, hc, below_setRow (below_trans (below_new _ _) (below_new _ _)) (by omega) _⟩

set_option maxHeartbeats 1000000 in
theorem apply_none {C : Array Value} {net : Int} {act : Bool} (h : CardIs C net act) (w : World) :
    Calls Try.prog 11 #[.agg C, .string { data := #[] }] w fun e w' => ∃ C', e = .returned (.agg C') ∧ CardIs C' net act ∧ Below w.heap.size w w' := by
  go_enter Try.func11, Try.ntmps11
  go_wp2_with (first | ((with_reducible refine ld33 w.heap.size C ?_ h.size ?_ ?_); exact rfl; exact heap_alloc2_old _ _ _) | ((with_reducible refine st33 (w.heap.size + 1) C zero33 ?_ ?_ ?_ ?_ h.size h.one ?_); exact rfl; exact rfl; exact heap_alloc2_new _ _ _; exact rfl))
  exact bodyPost_ret (v := .agg C) (results_cell_row Try.results11 _ _ (w.heap.size + 1) 33 _ (0, 0) _ rfl (setRow_heap _ _ _ _ _ _ (heap_alloc2_new _ _ _)) Try.underlying33 rfl (by rw [info33, h.size])) rfl
    ⟨_, rfl, h, below_setRow (below_trans (below_new _ _) (below_new _ _)) (by omega) _⟩

end Go.Proofs.Qxb6628926a.Net
