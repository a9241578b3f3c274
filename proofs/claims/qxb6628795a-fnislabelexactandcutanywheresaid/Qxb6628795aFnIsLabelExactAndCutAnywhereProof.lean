/-
  THE PROOF OF 'Rows.FnIsLabelExactAndCutAnywhereSaid': the frame by the guide's program, the walk by hand.
-/
import Derived.Test.Qxb6628795aRows
import Derived.WalkKit
import Derived.ProofKit
import Derived.OpenShut
import Derived.ShutString
import Derived.WalkSpells
import Derived.WalkLawsBesides
import Derived.Test.Qxb6628795aExactWalks
namespace Go.Proofs.Qxb6628795a.fnIsLabelExactAndCutAnywhere
open Go.ChangeShapes Go.WideShapes Go.ChangeAt Go.RowKit
open Go.ChangeMaps (open_string shut_string)
open Go.Proofs.Qxb6628795a.Lab
set_option linter.unusedVariables false      -- a walk need not use every 'w<i>' (that an integer argument fits its kind)

theorem own : ownKnob Try.prog.godebug = none := by kernel_rfl

/-! ### STEP 1: THE WALK: the Go text returns true. 'Grown w w'': the world has at most new blocks (Derived/RowKit3.lean). Part the cases AHEAD of 'go_enter' where a test parts the walk; take each callee by a contract of your own. -/
set_option maxHeartbeats 1000000 in
theorem walk (a0 : ByteArray) (a1 : Int) (w0 : a0.size ≤ maxLen) (w1 : (Lit.int .i64 a1).wf = true) (w : World) :
    Calls Try.prog 3 #[.string a0, .int .i64 a1] w fun e w' => e = .returned (.bool true) ∧ Grown w w' := by
  by_cases h : a0.size ≤ 1048576
  · have hd : decide (a0.size ≤ 1048576) = true := by simp; omega
    obtain ⟨bG, HG⟩ : ∃ b, Hid (lab a0.data.toList = b) := ⟨_, rfl⟩
    by_cases hi : 0 < a1 ∧ a1 < a0.size
    · obtain ⟨i, rfl⟩ := Int.eq_ofNat_of_zero_le (show 0 ≤ a1 by omega)
      obtain ⟨i1, i2⟩ := hi
      obtain ⟨bL, HL⟩ : ∃ b, Hid (lab (a0.extract 0 i ++ { data := #[48] }).data.toList = b) := ⟨_, rfl⟩
      obtain ⟨bR, HR⟩ : ∃ b, Hid (lab ({ data := #[48] } ++ a0.extract i a0.size).data.toList = b) := ⟨_, rfl⟩
      have SL : (a0.extract 0 i ++ { data := #[48] }).size ≤ maxLen := by rw [left_size a0 i (by omega)]; unfold maxLen; omega
      have SR : ({ data := #[48] } ++ a0.extract i a0.size).size ≤ maxLen := by rw [right_size a0 i]; unfold maxLen; omega
      have HC : Hid (bG = (decide (a0.size ≤ 63) && bL && bR)) := by
        show bG = _
        rw [← HG.out, ← HL.out, ← HR.out, left_list, right_list, lab_cut a0.data.toList i (by omega) (by simp; omega)]
        simp
      go_enter Try.func3, Try.ntmps3
      go_wp2_with (go_at_call 5; refine (bytes5_any _ _ _ w0).mono ?_; rintro e w' ⟨rfl, rfl⟩)
      refine (isLabel_val _ bG _ HG.out w0).mono ?_
      rintro e w2 ⟨rfl, hg2⟩
      go_wp2_with fail
      refine (model_val _ bG _ HG.out w0).mono ?_
      rintro e w3 ⟨rfl, rfl⟩
      go_wp2_with fail
      refine (isLabel_val _ bL _ HL.out SL).mono ?_
      rintro e w4 ⟨rfl, hg4⟩
      go_wp2_with fail
      refine (isLabel_val _ bR _ HR.out SR).mono ?_
      rintro e w5 ⟨rfl, hg5⟩
      have hg := grown_trans hg2 (grown_trans hg4 hg5)
      have hc := HC.out
      clear HC
      by_cases hl : a0.size ≤ 63
      · have hl' : decide ((a0.size : Int) ≤ 63) = true := by simp; omega
        rw [decide_eq_true hl] at hc
        cases bG <;> cases bL <;> cases bR <;> first | (exfalso; revert hc; decide) | (clear hc; go_wp2; go_ret; exact ⟨rfl, hg⟩)
      · have hl' : decide ((a0.size : Int) ≤ 63) = false := by simp; omega
        rw [decide_eq_false hl] at hc
        cases bG <;> first | (exfalso; revert hc; cases bL <;> cases bR <;> decide) | (clear hc; go_wp2; go_ret; exact ⟨rfl, hg⟩)
    · have hi' : (decide (0 < a1) && decide (a1 < (a0.size : Int))) = false := by simp; omega
      by_cases i1 : 0 < a1
      · have i2 : ¬ a1 < (a0.size : Int) := by omega
        have i3 : decide (a1 < (a0.size : Int)) = false := by simp; omega
        clear hi hi'
        go_enter Try.func3, Try.ntmps3
        go_wp2_with (go_at_call 5; refine (bytes5_any _ _ _ w0).mono ?_; rintro e w' ⟨rfl, rfl⟩)
        refine (isLabel_val _ bG _ HG.out w0).mono ?_
        rintro e w2 ⟨rfl, hg2⟩
        go_wp2_with fail
        refine (model_val _ bG _ HG.out w0).mono ?_
        rintro e w3 ⟨rfl, rfl⟩
        go_wp2
        go_ret
        exact ⟨rfl, hg2⟩
      · have i3 : decide (0 < a1) = false := by simp; omega
        clear hi hi'
        go_enter Try.func3, Try.ntmps3
        go_wp2_with (go_at_call 5; refine (bytes5_any _ _ _ w0).mono ?_; rintro e w' ⟨rfl, rfl⟩)
        refine (isLabel_val _ bG _ HG.out w0).mono ?_
        rintro e w2 ⟨rfl, hg2⟩
        go_wp2_with fail
        refine (model_val _ bG _ HG.out w0).mono ?_
        rintro e w3 ⟨rfl, rfl⟩
        go_wp2
        go_ret
        exact ⟨rfl, hg2⟩
  · have hd : decide (a0.size ≤ 1048576) = false := by simp; omega
    go_enter Try.func3, Try.ntmps3
    go_wp2_with (go_at_call 5; refine (bytes5_any _ _ _ w0).mono ?_; rintro e w' ⟨rfl, rfl⟩)
    go_ret
    exact ⟨rfl, Grown.refl _⟩

/-! ### THE ROW's STEP: WRITTEN OUT: LEAVE IT -/
set_option maxRecDepth 100000 in
theorem lifted (os : Os) (started : os.Started) (H : Type) (enc : TypeId × Value → H) :
    ReturnsInHanded {} Try.checked os 3 .any (Rows.fnIsLabelExactAndCutAnywhereSpec.pre6 enc Try.prog Try.f3 Rows.fnIsLabelExactAndCutAnywhereRow.domain false) (Rows.fnIsLabelExactAndCutAnywhereSpec.post enc Try.prog Try.f3 false true false false) := by
  refine returnsInHanded_of_change (C := Try.checked) own started (by kernel_rfl) Try.func3
    (ChangeSpec.witness6 (enc := enc) (C := Try.checked) false ⟨#[], #[.string ByteArray.empty, .int .i64 0], []⟩ 8 (by kernel_rfl) (by kernel_rfl) (by kernel_rfl) (by kernel_rfl)) ?_
  intro W base args ds gs before hval0 hW hcnd _
  have hval : ∀ (j : Nat) t v, Try.f3.params[j]? = some t → args[j]? = some v → Value.okWide Try.prog W .any base t v := hval0
  have hW' := hW
  obtain ⟨p, q, hA0, hV, rfl, hfz, hnd⟩ := hW
  have hA : DataW.TrodAll enc Try.prog W 0 (fun _ => true) true Try.f3.params.toList args.toList ds p := hA0
  rw [Try.params3] at hA hval
  obtain ⟨v0, vs0, d0, ds0, p0, q0, hargs, rfl, rfl, h0, r0⟩ := trodAll_cons hA
  obtain ⟨v1, vs1, d1, ds1, p1, q1, rfl, rfl, rfl, h1, r1⟩ := trodAll_cons r0
  obtain ⟨rfl, rfl, rfl⟩ := trodAll_nil r1
  obtain rfl : args = #[v0, v1] := by cases args; simp_all
  obtain ⟨rfl, rfl⟩ := trodVars_none hV
  obtain ⟨a0, rfl, rfl, rfl, w0⟩ := open_string Try.underlying9 (hval 0 9 v0 rfl rfl) h0
  obtain ⟨a1, rfl, rfl, rfl, w1⟩ := open_int Try.underlying3 (hval 1 3 v1 rfl rfl) h1
  clear hA0 hval0
  simp only [List.append_nil] at hW'
  refine (walk a0 a1 w0 w1 W).mono fun e W' ⟨he, hg⟩ => ?_
  subst he
  exact ⟨_, rfl, post_of_same (pa := []) (pv := []) hW' (fun _ _ _ => (trodAll_cons_mk (shut_bool Try.underlying4 _) trodAll_mk0)) (fun sp _ => (trodAll_cons_mk (shut_string Try.underlying9 w0) (trodAll_cons_mk (shut_int Try.underlying3 w1) trodAll_mk0))) (fun _ _ => rfl) rfl
    (hg.frame _) hg.2.1 (ok_one (by kernel_rfl) rfl (okWide_bool_mk Try.underlying4 _))⟩

theorem over : Rows.fnIsLabelExactAndCutAnywhereRow.holds Try.pinned (OpenSpec.ofChange Rows.fnIsLabelExactAndCutAnywhereSpec) :=
  OpenClaim.holds_of_wide 3 Try.f3 rfl rfl rfl rfl rfl rfl rfl ⟨rfl, rfl, rfl, rfl, rfl⟩ rfl rfl rfl rfl rfl (by kernel_rfl) Try.func3 (by kernel_rfl)
    (of_decide_eq_true (by kernel_rfl)) (by unfold Func.isWrapper; first | (rw [if_pos (by decide +kernel)]; kernel_rfl) | (rw [if_neg (by decide +kernel)]; exact ⟨rfl, rfl⟩))
    (fun os started H enc _ => lifted os started H enc)

/-- ████ THE STATEMENT ████ -/
theorem proved : Rows.FnIsLabelExactAndCutAnywhereSaid :=
  over
end Go.Proofs.Qxb6628795a.fnIsLabelExactAndCutAnywhere
