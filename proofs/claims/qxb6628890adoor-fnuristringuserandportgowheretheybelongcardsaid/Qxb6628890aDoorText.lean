/-
  message.joinHostPort; (message.URI).String: a URI's text.
-/
import Derived.Test.Qxb6628890aDoorParams
import Derived.Lib.ItoaLen
import Derived.Lib.AppendIntMem
import Derived.Lib.SmallJoins
import Derived.Deep.RegionHeld3
namespace Go.Proofs.Qxb6628890aDoor.Uri
open Go.RowKit Go.Proofs.Qxb6628890aDoor

/-- ':port' -/
def ptx (n : Int) : List UInt8 := if n = 0 then [] else 58 :: Lib.itoa n

theorem ptx_len (n : Int) (h0 : -9223372036854775808 ≤ n) (h1 : n ≤ 9223372036854775807) : (ptx n).length ≤ 22 := by
  unfold ptx
  split
  · simp
  · have := Lib.itoa_length_le n h0 h1
    simp; omega

set_option maxHeartbeats 400000 in
theorem join_any (ho : ByteArray) (n : Int) (w : World) (h0 : -9223372036854775808 ≤ n) (h1 : n ≤ 9223372036854775807) (hs : ho.size ≤ 1048576)
    (htab : Lib.TabIs Tryd.prog w tabName .u64 Lib.pow10Tab) :
    Calls Tryd.prog 13 #[.string ho, .int .i64 n] w fun e w' => ∃ r : ByteArray, e = .returned (.string r) ∧ Hid (r.data.toList = ho.data.toList ++ ptx n) ∧ r.size ≤ ho.size + 22 ∧ Below w.heap.size w w' := by
  by_cases hn : n = 0
  · subst hn
    clear htab
    go_enter Tryd.func13, Tryd.ntmps13
    go_wp2
    go_ret
    exact ⟨_, rfl, by show _ = _; simp [ptx], by omega, Below.refl _ _⟩
  · have hb : (n == 0) = false := beq_eq_false_iff_ne.2 hn
    have HP : Hid (ptx n = 58 :: Lib.itoa n) := by show _ = _; simp [ptx, hn]
    have hl := Lib.itoa_length_le n h0 h1
    have HW := Tryd.strconv_Itoa n h0 h1 w htab
    clear htab hn
    obtain ⟨t, Ht⟩ : ∃ t : ByteArray, Hid (t = ⟨(Lib.itoa n).toArray⟩) := ⟨_, rfl⟩
    have ht : t.size ≤ 21 := by
      have : t.size = (Lib.itoa n).length := by rw [Ht.out]; simp [ByteArray.size]
      omega
    have Ht2 : Hid (t.data.toList = Lib.itoa n) := by show _ = _; rw [Ht.out]
    rw [← Ht.out] at HW
    clear hl
    go_enter Tryd.func13, Tryd.ntmps13
    go_wp2_with fail
    refine HW.mono ?_
    rintro e W1 ⟨rfl, k, os, rfl⟩
    have hbel := Lib.below_grow w.heap.size w (Nat.le_refl _) k os
    generalize Sort.grow (w.drewN k) os = W1 at *
    go_wp2
    go_ret
    exact ⟨_, rfl, by show _ = _; rw [HP.out, ← Ht2.out]; simp, by rw [ByteArray.size_append, ByteArray.size_append]; have : (ByteArray.mk #[58]).size = 1 := rfl; omega, hbel⟩

theorem pstring_r (L : List (ByteArray × ByteArray)) (a : Option Addr) (cap : Nat) (w : World) (hT : tot L ≤ 1048576) (h : AtL w a L) :
    Calls Tryd.prog 14 #[.slice a L.length cap] w fun e w' => ∃ r : ByteArray, e = .returned (.string r) ∧ Hid (r.data.toList = ptext L) ∧ r.size ≤ 1048576 ∧ Below w.heap.size w w' := by
  refine (pstring_any L a cap w hT h).mono ?_
  rintro e w' ⟨rfl, hb⟩
  refine ⟨_, rfl, rfl, ?_, hb⟩
  have := ptext_len L
  simp [ByteArray.size]; omega

theorem box_at {w W : World} {cs : Array Value} {t : TypeId} (hb : Below (w.alloc (.cells cs t)).drew.heap.size (w.alloc (.cells cs t)).drew W) (j : Nat) : W.cell? ⟨w.heap.size, j, none⟩ = cs[j]? := by
  rw [hb.cell (p := ⟨w.heap.size, j, none⟩) (by simp)]
  exact World.cell?_alloc_mark w cs t (0, 0) j

theorem box_at2 {w W W2 : World} {cs : Array Value} {t : TypeId} {v : Value} {j : Nat} (hb : Below (w.alloc (.cells cs t)).drew.heap.size (w.alloc (.cells cs t)).drew W) (hb2 : Below W.heap.size W W2) (h : W.cell? ⟨w.heap.size, j, none⟩ = some v) : W2.cell? ⟨w.heap.size, j, none⟩ = some v := by
  have := hb.size
  simp at this
  rw [hb2.cell (p := ⟨w.heap.size, j, none⟩) (by show w.heap.size < W.heap.size; omega)]
  exact h

section
variable {sc us ho he r1 r2 : ByteArray} {p : List UInt8} {L : List (ByteArray × ByteArray)}
theorem fin_tt (hu : us.toList.isEmpty = true) (hh : he.toList.isEmpty = true) (e1 : r1.data.toList = ho.data.toList ++ p) (e2 : r2.data.toList = ptext L) :
    Hid ((sc ++ { data := #[58] } ++ (r1 ++ r2)).data.toList = utext6 sc us ho p L he) := by
  show _ = _
  rw [ByteArray.toList_eq] at hu hh
  simp [utext6, utext, htext, hu, hh, e1, e2]
theorem fin_tf (hu : us.toList.isEmpty = true) (hh : he.toList.isEmpty = false) (e1 : r1.data.toList = ho.data.toList ++ p) (e2 : r2.data.toList = ptext L) :
    Hid ((sc ++ { data := #[58] } ++ (r1 ++ r2) ++ ({ data := #[63] } ++ he)).data.toList = utext6 sc us ho p L he) := by
  show _ = _
  rw [ByteArray.toList_eq] at hu hh
  simp [utext6, utext, htext, hu, hh, e1, e2]
theorem fin_ft (hu : us.toList.isEmpty = false) (hh : he.toList.isEmpty = true) (e1 : r1.data.toList = ho.data.toList ++ p) (e2 : r2.data.toList = ptext L) :
    Hid ((sc ++ { data := #[58] } ++ (us ++ { data := #[64] }) ++ (r1 ++ r2)).data.toList = utext6 sc us ho p L he) := by
  show _ = _
  rw [ByteArray.toList_eq] at hu hh
  simp [utext6, utext, htext, hu, hh, e1, e2]
theorem fin_ff (hu : us.toList.isEmpty = false) (hh : he.toList.isEmpty = false) (e1 : r1.data.toList = ho.data.toList ++ p) (e2 : r2.data.toList = ptext L) :
    Hid ((sc ++ { data := #[58] } ++ (us ++ { data := #[64] }) ++ (r1 ++ r2) ++ ({ data := #[63] } ++ he)).data.toList = utext6 sc us ho p L he) := by
  show _ = _
  rw [ByteArray.toList_eq] at hu hh
  simp [utext6, utext, htext, hu, hh, e1, e2]
end

set_option maxHeartbeats 1000000 in
theorem uri_any (sc us ho he : ByteArray) (n : Int) (L : List (ByteArray × ByteArray)) (a : Option Addr) (cap : Nat) (w : World) (h0 : -9223372036854775808 ≤ n) (h1 : n ≤ 9223372036854775807)
    (hS : sc.size + us.size + ho.size + he.size ≤ 1048576) (hT : tot L ≤ 1048576)
    (htab : Lib.TabIs Tryd.prog w tabName .u64 Lib.pow10Tab) (h : AtL w a L) :
    Calls Tryd.prog 8 #[.agg #[.string sc, .string us, .string ho, .int .i64 n, .slice a L.length cap, .string he]] w fun e w' => ∃ r : ByteArray, e = .returned (.string r) ∧ Hid (r.data.toList = utext6 sc us ho (ptx n) L he) ∧ Below w.heap.size w w' := by
  have htb := Lib.tabBelow_of_tabIs htab
  have hat : ∀ W, Below w.heap.size w W → AtL W a L := fun W hb => h.below hb
  have hb0 : Below w.heap.size w (w.alloc (.cells #[.string sc, .string us, .string ho, .int .i64 n, .slice a L.length cap, .string he] 29)).drew := ((Below.refl _ _).alloc (Nat.le_refl _) _).drew
  have hs1 : ho.size ≤ 1048576 := by omega
  clear htab h
  cases hu : us.toList.isEmpty with
  | true =>
    cases hh : he.toList.isEmpty with
    | true =>
      go_enter Tryd.func8, Tryd.ntmps8
      go_wp2
      go_region_held3 (fun w' => w'.cell? ⟨w.heap.size, 2, none⟩ = some (.string ho) ∧ w'.cell? ⟨w.heap.size, 3, none⟩ = some (.int .i64 n) ∧ w'.cell? ⟨w.heap.size, 4, none⟩ = some (.slice a L.length cap)) (go_keep) (first | (go_at_call 13; refine (join_any _ _ _ h0 h1 hs1 ?_).mono ?_; exact htb _ hb0; rintro e W1 ⟨r1, rfl, Hr1, hr1, hb1⟩; have c2 : W1.cell? ⟨w.heap.size, 2, none⟩ = some (.string ho) := box_at hb1 2; have c3 : W1.cell? ⟨w.heap.size, 3, none⟩ = some (.int .i64 n) := box_at hb1 3; have c4 : W1.cell? ⟨w.heap.size, 4, none⟩ = some (.slice a L.length cap) := box_at hb1 4) | (go_at_call 14; refine (pstring_r L a cap _ hT ?_).mono ?_; exact hat _ (below_trans hb0 hb1); rintro e W2 ⟨r2, rfl, Hr2, hr2, hb2⟩; have d2 : W2.cell? ⟨w.heap.size, 2, none⟩ = some (.string ho) := box_at2 hb1 hb2 c2; have d3 : W2.cell? ⟨w.heap.size, 3, none⟩ = some (.int .i64 n) := box_at2 hb1 hb2 c3; have d4 : W2.cell? ⟨w.heap.size, 4, none⟩ = some (.slice a L.length cap) := box_at2 hb1 hb2 c4; have k1 : ¬ 9223372036854775807 < r1.size + r2.size := (by omega); have k2 : ¬ 9223372036854775807 < sc.size + 1 + (r1.size + r2.size) := (by omega)))
      have c5 : W2.cell? ⟨w.heap.size, 5, none⟩ = some (.string he) := box_at2 hb1 hb2 (box_at hb1 5 : W1.cell? ⟨w.heap.size, 5, none⟩ = some (.string he))
      have hbe := below_trans hb0 (below_trans hb1 hb2)
      go_wp2
      go_ret
      exact ⟨_, rfl, fin_tt hu hh Hr1.out Hr2.out, hbe⟩
    | false =>
      go_enter Tryd.func8, Tryd.ntmps8
      go_wp2
      go_region_held3 (fun w' => w'.cell? ⟨w.heap.size, 2, none⟩ = some (.string ho) ∧ w'.cell? ⟨w.heap.size, 3, none⟩ = some (.int .i64 n) ∧ w'.cell? ⟨w.heap.size, 4, none⟩ = some (.slice a L.length cap)) (go_keep) (first | (go_at_call 13; refine (join_any _ _ _ h0 h1 hs1 ?_).mono ?_; exact htb _ hb0; rintro e W1 ⟨r1, rfl, Hr1, hr1, hb1⟩; have c2 : W1.cell? ⟨w.heap.size, 2, none⟩ = some (.string ho) := box_at hb1 2; have c3 : W1.cell? ⟨w.heap.size, 3, none⟩ = some (.int .i64 n) := box_at hb1 3; have c4 : W1.cell? ⟨w.heap.size, 4, none⟩ = some (.slice a L.length cap) := box_at hb1 4) | (go_at_call 14; refine (pstring_r L a cap _ hT ?_).mono ?_; exact hat _ (below_trans hb0 hb1); rintro e W2 ⟨r2, rfl, Hr2, hr2, hb2⟩; have d2 : W2.cell? ⟨w.heap.size, 2, none⟩ = some (.string ho) := box_at2 hb1 hb2 c2; have d3 : W2.cell? ⟨w.heap.size, 3, none⟩ = some (.int .i64 n) := box_at2 hb1 hb2 c3; have d4 : W2.cell? ⟨w.heap.size, 4, none⟩ = some (.slice a L.length cap) := box_at2 hb1 hb2 c4; have k1 : ¬ 9223372036854775807 < r1.size + r2.size := (by omega); have k2 : ¬ 9223372036854775807 < sc.size + 1 + (r1.size + r2.size) := (by omega)))
      have c5 : W2.cell? ⟨w.heap.size, 5, none⟩ = some (.string he) := box_at2 hb1 hb2 (box_at hb1 5 : W1.cell? ⟨w.heap.size, 5, none⟩ = some (.string he))
      have hbe := below_trans hb0 (below_trans hb1 hb2)
      go_wp2
      go_ret
      exact ⟨_, rfl, fin_tf hu hh Hr1.out Hr2.out, hbe⟩
  | false =>
    cases hh : he.toList.isEmpty with
    | true =>
      go_enter Tryd.func8, Tryd.ntmps8
      go_wp2
      go_region_held3 (fun w' => w'.cell? ⟨w.heap.size, 2, none⟩ = some (.string ho) ∧ w'.cell? ⟨w.heap.size, 3, none⟩ = some (.int .i64 n) ∧ w'.cell? ⟨w.heap.size, 4, none⟩ = some (.slice a L.length cap)) (go_keep) (first | (go_at_call 13; refine (join_any _ _ _ h0 h1 hs1 ?_).mono ?_; exact htb _ hb0; rintro e W1 ⟨r1, rfl, Hr1, hr1, hb1⟩; have c2 : W1.cell? ⟨w.heap.size, 2, none⟩ = some (.string ho) := box_at hb1 2; have c3 : W1.cell? ⟨w.heap.size, 3, none⟩ = some (.int .i64 n) := box_at hb1 3; have c4 : W1.cell? ⟨w.heap.size, 4, none⟩ = some (.slice a L.length cap) := box_at hb1 4) | (go_at_call 14; refine (pstring_r L a cap _ hT ?_).mono ?_; exact hat _ (below_trans hb0 hb1); rintro e W2 ⟨r2, rfl, Hr2, hr2, hb2⟩; have d2 : W2.cell? ⟨w.heap.size, 2, none⟩ = some (.string ho) := box_at2 hb1 hb2 c2; have d3 : W2.cell? ⟨w.heap.size, 3, none⟩ = some (.int .i64 n) := box_at2 hb1 hb2 c3; have d4 : W2.cell? ⟨w.heap.size, 4, none⟩ = some (.slice a L.length cap) := box_at2 hb1 hb2 c4; have k1 : ¬ 9223372036854775807 < r1.size + r2.size := (by omega); have k2 : ¬ 9223372036854775807 < sc.size + 1 + (us.size + 1) + (r1.size + r2.size) := (by omega)))
      have c5 : W2.cell? ⟨w.heap.size, 5, none⟩ = some (.string he) := box_at2 hb1 hb2 (box_at hb1 5 : W1.cell? ⟨w.heap.size, 5, none⟩ = some (.string he))
      have hbe := below_trans hb0 (below_trans hb1 hb2)
      go_wp2
      go_ret
      exact ⟨_, rfl, fin_ft hu hh Hr1.out Hr2.out, hbe⟩
    | false =>
      go_enter Tryd.func8, Tryd.ntmps8
      go_wp2
      go_region_held3 (fun w' => w'.cell? ⟨w.heap.size, 2, none⟩ = some (.string ho) ∧ w'.cell? ⟨w.heap.size, 3, none⟩ = some (.int .i64 n) ∧ w'.cell? ⟨w.heap.size, 4, none⟩ = some (.slice a L.length cap)) (go_keep) (first | (go_at_call 13; refine (join_any _ _ _ h0 h1 hs1 ?_).mono ?_; exact htb _ hb0; rintro e W1 ⟨r1, rfl, Hr1, hr1, hb1⟩; have c2 : W1.cell? ⟨w.heap.size, 2, none⟩ = some (.string ho) := box_at hb1 2; have c3 : W1.cell? ⟨w.heap.size, 3, none⟩ = some (.int .i64 n) := box_at hb1 3; have c4 : W1.cell? ⟨w.heap.size, 4, none⟩ = some (.slice a L.length cap) := box_at hb1 4) | (go_at_call 14; refine (pstring_r L a cap _ hT ?_).mono ?_; exact hat _ (below_trans hb0 hb1); rintro e W2 ⟨r2, rfl, Hr2, hr2, hb2⟩; have d2 : W2.cell? ⟨w.heap.size, 2, none⟩ = some (.string ho) := box_at2 hb1 hb2 c2; have d3 : W2.cell? ⟨w.heap.size, 3, none⟩ = some (.int .i64 n) := box_at2 hb1 hb2 c3; have d4 : W2.cell? ⟨w.heap.size, 4, none⟩ = some (.slice a L.length cap) := box_at2 hb1 hb2 c4; have k1 : ¬ 9223372036854775807 < r1.size + r2.size := (by omega); have k2 : ¬ 9223372036854775807 < sc.size + 1 + (us.size + 1) + (r1.size + r2.size) := (by omega)))
      have c5 : W2.cell? ⟨w.heap.size, 5, none⟩ = some (.string he) := box_at2 hb1 hb2 (box_at hb1 5 : W1.cell? ⟨w.heap.size, 5, none⟩ = some (.string he))
      have hbe := below_trans hb0 (below_trans hb1 hb2)
      go_wp2
      go_ret
      exact ⟨_, rfl, fin_ff hu hh Hr1.out Hr2.out, hbe⟩

end Go.Proofs.Qxb6628890aDoor.Uri
