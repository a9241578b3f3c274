/-
  THE WALK OF buildCard.
-/
import Derived.Test.Qxb6628926aCard
namespace Go.Proofs.Qxb6628926a.Net
open Go.RowKit

theorem one21 (i0 i8 i10 i12 i13 i14 i15 : Int) (s1 s2 s3 s4 s5 s6 s7 s9 s11 : ByteArray) (b16 : Bool) (p : Option Addr) : (#[.int .i64 i0, .string s1, .string s2, .string s3, .string s4, .string s5, .string s6, .string s7, .int .i64 i8, .string s9, .int .i64 i10, .string s11, .int .i64 i12, .int .i64 i13, .int .i64 i14, .int .i64 i15, .bool b16, .int .u64 0, .int .i64 0, .pointer none, .pointer p] : Array Value).all (·.oneCell') = true := by
  rw [Array.all_eq_true_iff_forall_mem]
  intro v hv
  simp only [List.mem_toArray, List.mem_cons, List.not_mem_nil, or_false] at hv
  rcases hv with rfl | rfl | rfl | rfl | rfl | rfl | rfl | rfl | rfl | rfl | rfl | rfl | rfl | rfl | rfl | rfl | rfl | rfl | rfl | rfl | rfl <;> rfl
theorem size1 (w : World) (A : Obj) : (w.alloc A).heap.size = w.heap.size + 1 := by simp
theorem size2 (w : World) (A B : Obj) : w.heap.size + 1 + 1 = ((w.alloc A).alloc B).heap.size := by rw [size1, size1]
theorem heap3 (w : World) (A B C : Obj) : (((w.alloc A).alloc B).alloc C).heap[w.heap.size + 1 + 1]? = some C := by
  have h := heap_alloc_new ((w.alloc A).alloc B) C
  rwa [size1, size1] at h
theorem heap3b (w : World) (A B C : Obj) : (((w.alloc A).alloc B).alloc C).heap[w.heap.size + 1]? = some B := by
  have h := heap_alloc2_old (w.alloc A) B C
  rwa [size1] at h
theorem heap4 (w : World) (A B C D : Obj) : ((((w.alloc A).alloc B).alloc C).alloc D).heap[w.heap.size + 1 + 1]? = some C := by
  have h := heap_alloc2_old ((w.alloc A).alloc B) C D
  rwa [size1, size1] at h
theorem heap4b (w : World) (A B C D : Obj) : ((((w.alloc A).alloc B).alloc C).alloc D).heap[w.heap.size + 1]? = some B := by
  have h := heap3b w A B C
  rw [Lib.alloc_old _ D (w.heap.size + 1) (by rw [size1, size1, size1]; omega)]
  exact h

set_option maxHeartbeats 2000000 in
theorem build_no (F : Array Value) (i0 i8 i10 i12 i13 i14 i15 : Int) (s1 s2 s3 s4 s5 s6 s7 s9 s11 : ByteArray) (b16 : Bool) (w : World) (h0 : F[0]? = some (.int .i64 i0)) (h1 : F[1]? = some (.string s1)) (h2 : F[2]? = some (.string s2)) (h3 : F[3]? = some (.string s3)) (h4 : F[4]? = some (.string s4)) (h5 : F[5]? = some (.string s5)) (h6 : F[6]? = some (.string s6)) (h7 : F[7]? = some (.string s7)) (h8 : F[8]? = some (.int .i64 i8)) (h9 : F[9]? = some (.string s9)) (h10 : F[10]? = some (.int .i64 i10)) (h11 : F[11]? = some (.string s11)) (h12 : F[12]? = some (.int .i64 i12)) (h13 : F[13]? = some (.int .i64 i13)) (h14 : F[14]? = some (.int .i64 i14)) (h15 : F[15]? = some (.int .i64 i15)) (h16 : F[16]? = some (.bool b16)) (h17 : F[17]? = some (.bool false)) :
    Calls Try.prog 7 #[.agg F] w fun e w' => ∃ C, e = .returned (.agg C) ∧ CardIs C i15 false ∧ Below w.heap.size w w' := by
  have hbel : Hid (Below w.heap.size w ((((w.alloc (.cells F 23)).alloc (.cells zero33 33)).alloc (.cells #[.int .i64 i0, .string s1, .string s2, .string s3, .string s4, .string s5, .string s6, .string s7, .int .i64 i8, .string s9, .int .i64 i10, .string s11, .int .i64 i12, .int .i64 i13, .int .i64 i14, .int .i64 i15, .bool b16, .int .u64 0, .int .i64 0, .pointer none, .pointer none] 33)).setRow (w.heap.size + 1) #[.int .i64 i0, .string s1, .string s2, .string s3, .string s4, .string s5, .string s6, .string s7, .int .i64 i8, .string s9, .int .i64 i10, .string s11, .int .i64 i12, .int .i64 i13, .int .i64 i14, .int .i64 i15, .bool b16, .int .u64 0, .int .i64 0, .pointer none, .pointer none])) := below_setRow (g := w.heap.size + 1) (below_trans (below_new _ _) (below_trans (below_new _ _) (below_new _ _))) (by omega) _
  go_enter Try.func7, Try.ntmps7
  go_wp2_with (first
    | ((with_reducible refine st33n (w.heap.size + 1 + 1) #[.int .i64 i0, .string s1, .string s2, .string s3, .string s4, .string s5, .string s6, .string s7, .int .i64 i8, .string s9, .int .i64 i10, .string s11, .int .i64 i12, .int .i64 i13, .int .i64 i14, .int .i64 i15, .bool b16, .int .u64 0, .int .i64 0, .pointer none, .pointer none] ((w.alloc (.cells F 23)).alloc (.cells zero33 33)) zero33 ?_ ?_ ?_ (size2 _ _ _) ?_ ?_ ?_ ?_); exact rfl; exact rfl; exact rfl; exact rfl; exact rfl; exact one21 i0 i8 i10 i12 i13 i14 i15 s1 s2 s3 s4 s5 s6 s7 s9 s11 b16 _)
    | ((with_reducible refine ld33 (w.heap.size + 1 + 1) #[.int .i64 i0, .string s1, .string s2, .string s3, .string s4, .string s5, .string s6, .string s7, .int .i64 i8, .string s9, .int .i64 i10, .string s11, .int .i64 i12, .int .i64 i13, .int .i64 i14, .int .i64 i15, .bool b16, .int .u64 0, .int .i64 0, .pointer none, .pointer none] ?_ ?_ ?_ ?_); exact rfl; exact rfl; exact heap3 _ _ _ _)
    | ((with_reducible refine st33 (w.heap.size + 1) #[.int .i64 i0, .string s1, .string s2, .string s3, .string s4, .string s5, .string s6, .string s7, .int .i64 i8, .string s9, .int .i64 i10, .string s11, .int .i64 i12, .int .i64 i13, .int .i64 i14, .int .i64 i15, .bool b16, .int .u64 0, .int .i64 0, .pointer none, .pointer none] zero33 ?_ ?_ ?_ ?_ ?_ ?_ ?_); exact rfl; exact rfl; exact heap3b _ _ _ _; exact rfl; exact rfl; exact one21 i0 i8 i10 i12 i13 i14 i15 s1 s2 s3 s4 s5 s6 s7 s9 s11 b16 _))
  exact bodyPost_ret (v := .agg #[.int .i64 i0, .string s1, .string s2, .string s3, .string s4, .string s5, .string s6, .string s7, .int .i64 i8, .string s9, .int .i64 i10, .string s11, .int .i64 i12, .int .i64 i13, .int .i64 i14, .int .i64 i15, .bool b16, .int .u64 0, .int .i64 0, .pointer none, .pointer none]) (results_cell_row Try.results7 _ _ (w.heap.size + 1) 33 _ (0, 0) _ rfl (setRow_heap _ _ _ _ _ _ (heap3b _ _ _ _)) Try.underlying33 rfl rfl) rfl
    ⟨_, rfl, ⟨rfl, rfl, (fun e => by cases e), (fun _ => rfl), one21 i0 i8 i10 i12 i13 i14 i15 s1 s2 s3 s4 s5 s6 s7 s9 s11 b16 _⟩, hbel.out⟩

set_option maxHeartbeats 2000000 in
theorem build_yes (F : Array Value) (i0 i8 i10 i12 i13 i14 i15 : Int) (s1 s2 s3 s4 s5 s6 s7 s9 s11 : ByteArray) (b16 : Bool) (w : World) (h0 : F[0]? = some (.int .i64 i0)) (h1 : F[1]? = some (.string s1)) (h2 : F[2]? = some (.string s2)) (h3 : F[3]? = some (.string s3)) (h4 : F[4]? = some (.string s4)) (h5 : F[5]? = some (.string s5)) (h6 : F[6]? = some (.string s6)) (h7 : F[7]? = some (.string s7)) (h8 : F[8]? = some (.int .i64 i8)) (h9 : F[9]? = some (.string s9)) (h10 : F[10]? = some (.int .i64 i10)) (h11 : F[11]? = some (.string s11)) (h12 : F[12]? = some (.int .i64 i12)) (h13 : F[13]? = some (.int .i64 i13)) (h14 : F[14]? = some (.int .i64 i14)) (h15 : F[15]? = some (.int .i64 i15)) (h16 : F[16]? = some (.bool b16)) (h17 : F[17]? = some (.bool true)) :
    Calls Try.prog 7 #[.agg F] w fun e w' => ∃ C, e = .returned (.agg C) ∧ CardIs C i15 true ∧ Below w.heap.size w w' := by
  have hbel : Hid (Below w.heap.size w (((((w.alloc (.cells F 23)).alloc (.cells zero33 33)).alloc (.cells #[.int .i64 i0, .string s1, .string s2, .string s3, .string s4, .string s5, .string s6, .string s7, .int .i64 i8, .string s9, .int .i64 i10, .string s11, .int .i64 i12, .int .i64 i13, .int .i64 i14, .int .i64 i15, .bool b16, .int .u64 0, .int .i64 0, .pointer none, .pointer (some ⟨w.heap.size + 1 + 1 + 1, 0, none⟩)] 33)).alloc (.cells #[.int .u64 0, .int .i64 0, .pointer none] 30)).setRow (w.heap.size + 1) #[.int .i64 i0, .string s1, .string s2, .string s3, .string s4, .string s5, .string s6, .string s7, .int .i64 i8, .string s9, .int .i64 i10, .string s11, .int .i64 i12, .int .i64 i13, .int .i64 i14, .int .i64 i15, .bool b16, .int .u64 0, .int .i64 0, .pointer none, .pointer (some ⟨w.heap.size + 1 + 1 + 1, 0, none⟩)])) := below_setRow (g := w.heap.size + 1) (below_trans (below_new _ _) (below_trans (below_new _ _) (below_trans (below_new _ _) (below_new _ _)))) (by omega) _
  go_enter Try.func7, Try.ntmps7
  go_wp2_with (first
    | ((with_reducible refine st33n (w.heap.size + 1 + 1) #[.int .i64 i0, .string s1, .string s2, .string s3, .string s4, .string s5, .string s6, .string s7, .int .i64 i8, .string s9, .int .i64 i10, .string s11, .int .i64 i12, .int .i64 i13, .int .i64 i14, .int .i64 i15, .bool b16, .int .u64 0, .int .i64 0, .pointer none, .pointer none] ((w.alloc (.cells F 23)).alloc (.cells zero33 33)) zero33 ?_ ?_ ?_ (size2 _ _ _) ?_ ?_ ?_ ?_); exact rfl; exact rfl; exact rfl; exact rfl; exact rfl; exact one21 i0 i8 i10 i12 i13 i14 i15 s1 s2 s3 s4 s5 s6 s7 s9 s11 b16 _)
    | ((with_reducible refine ld33 (w.heap.size + 1 + 1) #[.int .i64 i0, .string s1, .string s2, .string s3, .string s4, .string s5, .string s6, .string s7, .int .i64 i8, .string s9, .int .i64 i10, .string s11, .int .i64 i12, .int .i64 i13, .int .i64 i14, .int .i64 i15, .bool b16, .int .u64 0, .int .i64 0, .pointer none, .pointer (some ⟨w.heap.size + 1 + 1 + 1, 0, none⟩)] ?_ ?_ ?_ ?_); exact rfl; exact rfl; exact heap4 _ _ _ _ _)
    | ((with_reducible refine st33 (w.heap.size + 1) #[.int .i64 i0, .string s1, .string s2, .string s3, .string s4, .string s5, .string s6, .string s7, .int .i64 i8, .string s9, .int .i64 i10, .string s11, .int .i64 i12, .int .i64 i13, .int .i64 i14, .int .i64 i15, .bool b16, .int .u64 0, .int .i64 0, .pointer none, .pointer (some ⟨w.heap.size + 1 + 1 + 1, 0, none⟩)] zero33 ?_ ?_ ?_ ?_ ?_ ?_ ?_); exact rfl; exact rfl; exact heap4b _ _ _ _ _; exact rfl; exact rfl; exact one21 i0 i8 i10 i12 i13 i14 i15 s1 s2 s3 s4 s5 s6 s7 s9 s11 b16 _))
  exact bodyPost_ret (v := .agg #[.int .i64 i0, .string s1, .string s2, .string s3, .string s4, .string s5, .string s6, .string s7, .int .i64 i8, .string s9, .int .i64 i10, .string s11, .int .i64 i12, .int .i64 i13, .int .i64 i14, .int .i64 i15, .bool b16, .int .u64 0, .int .i64 0, .pointer none, .pointer (some ⟨w.heap.size + 1 + 1 + 1, 0, none⟩)]) (results_cell_row Try.results7 _ _ (w.heap.size + 1) 33 _ (0, 0) _ rfl (setRow_heap _ _ _ _ _ _ (heap4b _ _ _ _ _)) Try.underlying33 rfl rfl) rfl
    ⟨_, rfl, ⟨rfl, rfl, (fun _ => ⟨_, rfl⟩), (fun e => by cases e), one21 i0 i8 i10 i12 i13 i14 i15 s1 s2 s3 s4 s5 s6 s7 s9 s11 b16 _⟩, hbel.out⟩

end Go.Proofs.Qxb6628926a.Net
