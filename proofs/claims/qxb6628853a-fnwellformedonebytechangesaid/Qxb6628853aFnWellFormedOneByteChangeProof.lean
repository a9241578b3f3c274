/-
  THE PROOF OF 'Rows.FnWellFormedOneByteChangeSaid': the frame by the guide's program (its close turned to 'Below', for '[]byte(s)' lays a row that bears a mark), the walk by hand.
-/
import Derived.Test.Qxb6628853aRows
import Derived.WalkKit
import Derived.ProofKit
import Derived.OpenShut
import Derived.ShutString
import Derived.ChangeOld
import Derived.Below
import Derived.WalkSpells
import Derived.WalkLawsBesides
import Derived.Deep.RegionWith
import Derived.Test.Qxb6628853aWalksA
namespace Go.Proofs.Qxb6628853a.fnWellFormedOneByteChange
open Go.ChangeShapes Go.WideShapes Go.ChangeAt Go.RowKit
open Go.ChangeMaps (open_string shut_string)
open Go.Proofs.Qxb6628853a.Cod
set_option linter.unusedVariables false      -- a walk need not use every 'w<i>' (that an integer argument fits its kind)

theorem own : ownKnob Try.prog.godebug = none := by kernel_rfl

/-! ### STEP 1: THE WALK: the Go text returns true. 'Below w.heap.size w w'': nothing that was there has turned. Part the cases AHEAD of 'go_enter' where a test parts the walk; take each callee by a contract of your own. -/
theorem back1 (w : World) (c : Int) :
    (convert 27 9 (.slice (some ⟨w.heap.size, 0, none⟩) 1 1)).run Try.prog (w.alloc (.cells #[.int .u8 c] 5)) =
      .ok (.string { data := #[UInt8.ofNat c.toNat] }) (w.alloc (.cells #[.int .u8 c] 5)) := by
  refine run_convert_bytes_arg (P := Try.prog) _ 27 5 Try.underlying27 Try.underlying5 _ 0 1 1 [c] rfl (fun i hi => ?_) 9 Try.underlying9
  rw [World.cell?_alloc_mark]
  have : i = 0 := by omega
  subst this
  rfl

theorem cat3 (a b : ByteArray) (c : UInt8) : (a ++ { data := #[c] } ++ b).data.toList = a.data.toList ++ c :: b.data.toList := by
  simp

set_option maxHeartbeats 1000000 in
theorem walk (a0 : ByteArray) (a1 : Int) (a2 : Int) (w0 : a0.size ≤ maxLen) (w1 : (Lit.int .i64 a1).wf = true) (w2 : (Lit.int .u8 a2).wf = true) (w : World) :
    Calls Try.prog 4 #[.string a0, .int .i64 a1, .int .u8 a2] w fun e w' => e = .returned (.bool true) ∧ Below w.heap.size w w' := by
  by_cases h : a0.size ≤ 1048576
  · have hd : decide (a0.size ≤ 1048576) = true := by simp; omega
    by_cases hi : 0 ≤ a1 ∧ a1 < a0.size
    · obtain ⟨i1, i2⟩ := hi
      obtain ⟨k, rfl⟩ := Int.eq_ofNat_of_zero_le i1
      have e1 : decide ((k : Int) < 0) = false := by simp
      have e2 : decide ((a0.size : Int) ≤ k) = false := by simp; omega
      have hb1 := back1 w a2
      have k1 : k + 1 ≤ a0.size := by omega
      have k2 : (k : Int) + 1 ≤ (a0.size : Int) := by omega
      have k3 : 0 ≤ (k : Int) + 1 := by omega
      have k4 : k < a0.size := by omega
      have HW : Hid (IntKind.i64.wrap ((k : Int) + 1) = (k : Int) + 1) := by show IntKind.i64.wrap _ = _; simp only [IntKind.wrap]; simp [IntKind.signed, IntKind.bits]; omega
      have k5 : k ≤ a0.size := by omega
      have hsl : ∀ wx, (Instr.slice 9 (.string a0) (some (.int .i64 ((k : Int) + 1))) none none).run Try.prog wx = .ok (.string (a0.extract (k + 1) a0.size)) wx := fun wx => run_slice_string_l (P := Try.prog) wx 9 a0 Try.underlying9 .i64 ((k : Int) + 1) k3 k2
      generalize UInt8.ofNat a2.toNat = c at *
      obtain ⟨bZ, HZ⟩ : ∃ b, Hid (wf (a0.extract 0 k ++ { data := #[48] } ++ a0.extract (k + 1) a0.size).data.toList = b) := ⟨_, rfl⟩
      obtain ⟨bA, HA⟩ : ∃ b, Hid (wf (({ data := #[48, 48, 48, 48, 48] } : ByteArray) ++ { data := #[c] }).data.toList = b) := ⟨_, rfl⟩
      obtain ⟨t, Ht⟩ : ∃ t, Hid (a0.extract 0 k ++ { data := #[c] } ++ a0.extract (k + 1) a0.size = t) := ⟨_, rfl⟩
      obtain ⟨bT, HT⟩ : ∃ b, Hid (wf t.data.toList = b) := ⟨_, rfl⟩
      have HC : Hid (bT = (bZ && bA)) := by
        show bT = _
        rw [← HT.out, ← HZ.out, ← HA.out, ← Ht.out, cat3, cat3]
        exact wf_one _ _ _
      by_cases h6 : t.size = 6
      · have b6 : ((t.size : Int) == 6) = true := beq_iff_eq.2 (by omega)
        have H6 : Hid (t.size = 6) := h6
        clear h6
        go_enter Try.func4, Try.ntmps4
        go_wp2_with (go_at_call 9; refine (bytes9_any _ _ _ _ w0).mono ?_; rintro e w' ⟨rfl, rfl⟩)
        go_region
        go_wp2_with fail
        rw [Ht.out]
        refine (wf_val _ bT _ HT.out).mono ?_
        rintro e w2 ⟨rfl, hg2⟩
        go_wp2_with fail
        refine (parse_any _ _ H6.out).mono ?_
        rintro e w3 ⟨rfl, rfl⟩
        go_wp2_with fail
        refine (ren_of _ _ H6.out).mono ?_
        rintro e w4 ⟨r, rfl, Hr, hg4⟩
        have hr : (r.toList == t.toList) = bT := by rw [Hr.out]; exact HT.out
        go_wp2_with fail
        have hwr := HW.out
        go_region_with (go_at_call 6; refine (wf_val _ bZ _ HZ.out).mono ?_; rintro e w5 ⟨rfl, hg5⟩)
        go_wp2_with fail
        refine (wf_val _ bA _ HA.out).mono ?_
        rintro e w6 ⟨rfl, hg6⟩
        have hc := HC.out
        have hg1 := (((Below.refl w'.heap.size w').alloc (Nat.le_refl _) (.cells #[.int .u8 a2] 5))).drew
        have hg := below_trans hg1 (below_trans hg2 (below_trans hg4 (below_trans (below_trans (Below.refl _ _).drew hg5) hg6)))
        clear HC
        cases bT <;> cases bZ <;> cases bA <;> first | (exfalso; revert hc; decide) | (clear hc; go_wp2; go_ret; exact ⟨rfl, hg⟩)
      · have b6 : ((t.size : Int) == 6) = false := beq_eq_false_iff_ne.2 (by omega)
        have hf : wf t.data.toList = false := wf_len (by simpa using h6)
        obtain rfl : bT = false := by rw [← HT.out]; exact hf
        clear hf h6
        go_enter Try.func4, Try.ntmps4
        go_wp2_with (go_at_call 9; refine (bytes9_any _ _ _ _ w0).mono ?_; rintro e w' ⟨rfl, rfl⟩)
        go_region
        go_wp2_with fail
        rw [Ht.out]
        refine (wf_val _ false _ HT.out).mono ?_
        rintro e w2 ⟨rfl, hg2⟩
        go_wp2_with fail
        have hwr := HW.out
        go_region_with (go_at_call 6; refine (wf_val _ bZ _ HZ.out).mono ?_; rintro e w5 ⟨rfl, hg5⟩)
        go_wp2_with fail
        refine (wf_val _ bA _ HA.out).mono ?_
        rintro e w6 ⟨rfl, hg6⟩
        have hc := HC.out
        have hg1 := (((Below.refl w'.heap.size w').alloc (Nat.le_refl _) (.cells #[.int .u8 a2] 5))).drew
        have hg := below_trans hg1 (below_trans hg2 (below_trans (below_trans (Below.refl _ _).drew hg5) hg6))
        clear HC
        cases bZ <;> cases bA <;> first | (exfalso; revert hc; decide) | (clear hc; go_wp2; go_ret; exact ⟨rfl, hg⟩)
    · by_cases i1 : a1 < 0
      · clear hi
        go_enter Try.func4, Try.ntmps4
        go_wp2_with (go_at_call 9; refine (bytes9_any _ _ _ _ w0).mono ?_; rintro e w' ⟨rfl, rfl⟩)
        go_ret
        exact ⟨rfl, Below.refl _ _⟩
      · have i2 : (a0.size : Int) ≤ a1 := by omega
        have e1 : decide (a1 < 0) = false := by simp; omega
        clear hi
        go_enter Try.func4, Try.ntmps4
        go_wp2_with (go_at_call 9; refine (bytes9_any _ _ _ _ w0).mono ?_; rintro e w' ⟨rfl, rfl⟩)
        go_ret
        exact ⟨rfl, Below.refl _ _⟩
  · have hd : decide (a0.size ≤ 1048576) = false := by simp; omega
    go_enter Try.func4, Try.ntmps4
    go_wp2_with (go_at_call 9; refine (bytes9_any _ _ _ _ w0).mono ?_; rintro e w' ⟨rfl, rfl⟩)
    go_ret
    exact ⟨rfl, Below.refl _ _⟩

/-! ### THE ROW's STEP: WRITTEN OUT: LEAVE IT -/
set_option maxRecDepth 100000 in
theorem lifted (os : Os) (started : os.Started) (H : Type) (enc : TypeId × Value → H) :
    ReturnsInHanded {} Try.checked os 4 .any (Rows.fnWellFormedOneByteChangeSpec.pre6 enc Try.prog Try.f4 Rows.fnWellFormedOneByteChangeRow.domain false) (Rows.fnWellFormedOneByteChangeSpec.post enc Try.prog Try.f4 false true false false) := by
  refine returnsInHanded_of_change (C := Try.checked) own started (by kernel_rfl) Try.func4
    (ChangeSpec.witness6 (enc := enc) (C := Try.checked) false ⟨#[], #[.string ByteArray.empty, .int .i64 0, .int .u8 0], []⟩ 8 (by kernel_rfl) (by kernel_rfl) (by kernel_rfl) (by kernel_rfl)) ?_
  intro W base args ds gs before hval0 hW hcnd _
  have hval : ∀ (j : Nat) t v, Try.f4.params[j]? = some t → args[j]? = some v → Value.okWide Try.prog W .any base t v := hval0
  have hW' := hW
  obtain ⟨p, q, hA0, hV, rfl, hfz, hnd⟩ := hW
  have hA : DataW.TrodAll enc Try.prog W 0 (fun _ => true) true Try.f4.params.toList args.toList ds p := hA0
  rw [Try.params4] at hA hval
  obtain ⟨v0, vs0, d0, ds0, p0, q0, hargs, rfl, rfl, h0, r0⟩ := trodAll_cons hA
  obtain ⟨v1, vs1, d1, ds1, p1, q1, rfl, rfl, rfl, h1, r1⟩ := trodAll_cons r0
  obtain ⟨v2, vs2, d2, ds2, p2, q2, rfl, rfl, rfl, h2, r2⟩ := trodAll_cons r1
  obtain ⟨rfl, rfl, rfl⟩ := trodAll_nil r2
  obtain rfl : args = #[v0, v1, v2] := by cases args; simp_all
  obtain ⟨rfl, rfl⟩ := trodVars_none hV
  obtain ⟨a0, rfl, rfl, rfl, w0⟩ := open_string Try.underlying9 (hval 0 9 v0 rfl rfl) h0
  obtain ⟨a1, rfl, rfl, rfl, w1⟩ := open_int Try.underlying3 (hval 1 3 v1 rfl rfl) h1
  obtain ⟨a2, rfl, rfl, rfl, w2⟩ := open_int Try.underlying5 (hval 2 5 v2 rfl rfl) h2
  clear hA0 hval0
  refine (walk a0 a1 a2 w0 w1 w2 W).mono fun e W' ⟨he, bel⟩ => ?_
  subst he
  exact ⟨_, rfl, _, _, _, [], _, [], hW', trodAll_mk1 (shut_bool Try.underlying4 _), (trodAll_cons_mk (shut_string Try.underlying9 w0) (trodAll_cons_mk (shut_int Try.underlying3 w1) (trodAll_cons_mk (shut_int Try.underlying5 w2) trodAll_mk0))), rfl, bel.frame _, fun h => by cases h⟩

theorem over : Rows.fnWellFormedOneByteChangeRow.holds Try.pinned (OpenSpec.ofChange Rows.fnWellFormedOneByteChangeSpec) :=
  OpenClaim.holds_of_wide 4 Try.f4 rfl rfl rfl rfl rfl rfl rfl ⟨rfl, rfl, rfl, rfl, rfl⟩ rfl rfl rfl rfl rfl (by kernel_rfl) Try.func4 (by kernel_rfl)
    (of_decide_eq_true (by kernel_rfl)) (by unfold Func.isWrapper; first | (rw [if_pos (by decide +kernel)]; kernel_rfl) | (rw [if_neg (by decide +kernel)]; exact ⟨rfl, rfl⟩))
    (fun os started H enc _ => lifted os started H enc)

/-- ████ THE STATEMENT ████ -/
theorem proved : Rows.FnWellFormedOneByteChangeSaid :=
  over
end Go.Proofs.Qxb6628853a.fnWellFormedOneByteChange
