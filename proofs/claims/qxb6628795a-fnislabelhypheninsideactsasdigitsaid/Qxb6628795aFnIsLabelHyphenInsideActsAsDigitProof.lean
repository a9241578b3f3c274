/-
  THE PROOF OF 'Rows.FnIsLabelHyphenInsideActsAsDigitSaid': the frame by the guide's program, the walk by hand.
-/
import Derived.Test.Qxb6628795aRows
import Derived.WalkKit
import Derived.ProofKit
import Derived.OpenShut
import Derived.ShutString
import Derived.WalkSpells
import Derived.WalkLawsBesides
import Derived.Test.Qxb6628795aHyphenWalks
namespace Go.Proofs.Qxb6628795a.fnIsLabelHyphenInsideActsAsDigit
open Go.ChangeShapes Go.WideShapes Go.ChangeAt Go.RowKit
open Go.ChangeMaps (open_string shut_string)
open Go.Proofs.Qxb6628795a.Lab
set_option linter.unusedVariables false      -- a walk need not use every 'w<i>' (that an integer argument fits its kind)

theorem own : ownKnob Try.prog.godebug = none := by kernel_rfl

/-! ### STEP 1: THE WALK: the Go text returns true. 'Grown w w'': the world has at most new blocks (Derived/RowKit3.lean). Part the cases AHEAD of 'go_enter' where a test parts the walk; take each callee by a contract of your own. -/
set_option maxHeartbeats 1000000 in
theorem walk (a0 : ByteArray) (a1 : ByteArray) (w0 : a0.size ≤ maxLen) (w1 : a1.size ≤ maxLen) (w : World) :
    Calls Try.prog 4 #[.string a0, .string a1] w fun e w' => e = .returned (.bool true) ∧ Grown w w' := by
  by_cases h : a0.size + a1.size ≤ 1048576
  · have hd : decide (a0.size + a1.size ≤ 1048576) = true := by simp; omega
    by_cases h1 : 524288 < a0.size
    · go_enter Try.func4, Try.ntmps4
      go_wp2_with (go_at_call 8; refine (bytes8_any _ _ _ w0 w1).mono ?_; rintro e w' ⟨rfl, rfl⟩)
      go_ret
      exact ⟨rfl, Grown.refl _⟩
    · by_cases h2 : 524288 < a1.size
      · go_enter Try.func4, Try.ntmps4
        go_wp2_with (go_at_call 8; refine (bytes8_any _ _ _ w0 w1).mono ?_; rintro e w' ⟨rfl, rfl⟩)
        go_ret
        exact ⟨rfl, Grown.refl _⟩
      · obtain ⟨bJ, HJ⟩ : ∃ b, Hid (lab (a0 ++ { data := #[45] } ++ a1).data.toList = b) := ⟨_, rfl⟩
        obtain ⟨bD, HD⟩ : ∃ b, Hid (lab (a0 ++ { data := #[48] } ++ a1).data.toList = b) := ⟨_, rfl⟩
        obtain ⟨bA, HA⟩ : ∃ b, Hid (digs (a0 ++ { data := #[48] } ++ a1).data.toList = b) := ⟨_, rfl⟩
        have SJ : (a0 ++ { data := #[45] } ++ a1).size ≤ maxLen := by rw [cat3_size]; unfold maxLen; omega
        have SD : (a0 ++ { data := #[48] } ++ a1).size ≤ maxLen := by rw [cat3_size]; unfold maxLen; omega
        have hbA : bA = true → bD = decide (a0.size + 1 + a1.size ≤ 63) := by
          intro e
          have h1 := HA.out; have h2 := HD.out
          rw [e] at h1
          rw [← h2, lab_digits]
          · congr 1; simp; omega
          · simp; omega
          · unfold digs at h1; rw [List.all_eq_true] at h1; exact h1
        have hE : (a0.toList.isEmpty = true ∨ a1.toList.isEmpty = true) → bJ = false := by
          intro e
          have h1 := HJ.out
          rw [ByteArray.toList_eq, ByteArray.toList_eq, List.isEmpty_iff, List.isEmpty_iff] at e
          rw [← h1, cat3]
          exact lab_edge _ _ e
        have hN : a0.toList.isEmpty = false → a1.toList.isEmpty = false → bJ = bD := by
          intro e1 e2
          rw [ByteArray.toList_eq] at e1 e2
          rw [← HJ.out, ← HD.out, cat3, cat3]
          exact lab_inner _ _ (by intro e; rw [e] at e1; cases e1) (by intro e; rw [e] at e2; cases e2)
        cases eA : a0.toList.isEmpty with
        | true =>
          obtain rfl := hE (Or.inl eA)
          clear hE hN
          have HbA : Hid (bA = true → bD = decide (a0.size + 1 + a1.size ≤ 63)) := hbA
          clear hbA
          go_enter Try.func4, Try.ntmps4
          go_wp2_with (go_at_call 8; refine (bytes8_any _ _ _ w0 w1).mono ?_; rintro e w' ⟨rfl, rfl⟩)
          refine (isLabel_val _ false _ HJ.out SJ).mono ?_
          rintro e w2 ⟨rfl, hg2⟩
          go_wp2_with fail
          refine (isLabel_val _ bD _ HD.out SD).mono ?_
          rintro e w3 ⟨rfl, hg3⟩
          go_wp2_with fail
          refine (allDigits_val _ bA _ HA.out SD).mono ?_
          rintro e w4 ⟨rfl, rfl⟩
          cases bA with
          | false =>
            go_wp2
            go_ret
            exact ⟨rfl, grown_trans hg2 hg3⟩
          | true =>
            have hb := HbA.out rfl
            by_cases hl : a0.size + 1 + a1.size ≤ 63
            · rw [decide_eq_true hl] at hb
              subst hb
              clear HbA
              have hl' : decide ((a0.size : Int) + 1 + (a1.size : Int) ≤ 63) = true := by simp; omega
              go_wp2
              go_ret
              exact ⟨rfl, grown_trans hg2 hg3⟩
            · rw [decide_eq_false hl] at hb
              subst hb
              clear HbA
              have hl' : decide ((a0.size : Int) + 1 + (a1.size : Int) ≤ 63) = false := by simp; omega
              go_wp2
              go_ret
              exact ⟨rfl, grown_trans hg2 hg3⟩
        | false =>
          cases eB : a1.toList.isEmpty with
          | true =>
            obtain rfl := hE (Or.inr eB)
            clear hE hN
            have HbA : Hid (bA = true → bD = decide (a0.size + 1 + a1.size ≤ 63)) := hbA
            clear hbA
            go_enter Try.func4, Try.ntmps4
            go_wp2_with (go_at_call 8; refine (bytes8_any _ _ _ w0 w1).mono ?_; rintro e w' ⟨rfl, rfl⟩)
            refine (isLabel_val _ false _ HJ.out SJ).mono ?_
            rintro e w2 ⟨rfl, hg2⟩
            go_wp2_with fail
            refine (isLabel_val _ bD _ HD.out SD).mono ?_
            rintro e w3 ⟨rfl, hg3⟩
            go_wp2_with fail
            refine (allDigits_val _ bA _ HA.out SD).mono ?_
            rintro e w4 ⟨rfl, rfl⟩
            cases bA with
            | false =>
              go_wp2
              go_ret
              exact ⟨rfl, grown_trans hg2 hg3⟩
            | true =>
              have hb := HbA.out rfl
              by_cases hl : a0.size + 1 + a1.size ≤ 63
              · rw [decide_eq_true hl] at hb
                subst hb
                clear HbA
                have hl' : decide ((a0.size : Int) + 1 + (a1.size : Int) ≤ 63) = true := by simp; omega
                go_wp2
                go_ret
                exact ⟨rfl, grown_trans hg2 hg3⟩
              · rw [decide_eq_false hl] at hb
                subst hb
                clear HbA
                have hl' : decide ((a0.size : Int) + 1 + (a1.size : Int) ≤ 63) = false := by simp; omega
                go_wp2
                go_ret
                exact ⟨rfl, grown_trans hg2 hg3⟩
          | false =>
            obtain rfl := hN eA eB
            clear hE hN
            have HbA : Hid (bA = true → bJ = decide (a0.size + 1 + a1.size ≤ 63)) := hbA
            clear hbA
            go_enter Try.func4, Try.ntmps4
            go_wp2_with (go_at_call 8; refine (bytes8_any _ _ _ w0 w1).mono ?_; rintro e w' ⟨rfl, rfl⟩)
            refine (isLabel_val _ bJ _ HJ.out SJ).mono ?_
            rintro e w2 ⟨rfl, hg2⟩
            go_wp2_with fail
            refine (isLabel_val _ bJ _ HD.out SD).mono ?_
            rintro e w3 ⟨rfl, hg3⟩
            go_wp2_with fail
            refine (allDigits_val _ bA _ HA.out SD).mono ?_
            rintro e w4 ⟨rfl, rfl⟩
            cases bA with
            | false =>
              go_wp2
              go_ret
              exact ⟨rfl, grown_trans hg2 hg3⟩
            | true =>
              have hb := HbA.out rfl
              by_cases hl : a0.size + 1 + a1.size ≤ 63
              · rw [decide_eq_true hl] at hb
                subst hb
                clear HbA
                have hl' : decide ((a0.size : Int) + 1 + (a1.size : Int) ≤ 63) = true := by simp; omega
                go_wp2
                go_ret
                exact ⟨rfl, grown_trans hg2 hg3⟩
              · rw [decide_eq_false hl] at hb
                subst hb
                clear HbA
                have hl' : decide ((a0.size : Int) + 1 + (a1.size : Int) ≤ 63) = false := by simp; omega
                go_wp2
                go_ret
                exact ⟨rfl, grown_trans hg2 hg3⟩
  · have hd : decide (a0.size + a1.size ≤ 1048576) = false := by simp; omega
    go_enter Try.func4, Try.ntmps4
    go_wp2_with (go_at_call 8; refine (bytes8_any _ _ _ w0 w1).mono ?_; rintro e w' ⟨rfl, rfl⟩)
    go_ret
    exact ⟨rfl, Grown.refl _⟩

/-! ### THE ROW's STEP: WRITTEN OUT: LEAVE IT -/
set_option maxRecDepth 100000 in
theorem lifted (os : Os) (started : os.Started) (H : Type) (enc : TypeId × Value → H) :
    ReturnsInHanded {} Try.checked os 4 .any (Rows.fnIsLabelHyphenInsideActsAsDigitSpec.pre6 enc Try.prog Try.f4 Rows.fnIsLabelHyphenInsideActsAsDigitRow.domain false) (Rows.fnIsLabelHyphenInsideActsAsDigitSpec.post enc Try.prog Try.f4 false true false false) := by
  refine returnsInHanded_of_change (C := Try.checked) own started (by kernel_rfl) Try.func4
    (ChangeSpec.witness6 (enc := enc) (C := Try.checked) false ⟨#[], #[.string ByteArray.empty, .string ByteArray.empty], []⟩ 8 (by kernel_rfl) (by kernel_rfl) (by kernel_rfl) (by kernel_rfl)) ?_
  intro W base args ds gs before hval0 hW hcnd _
  have hval : ∀ (j : Nat) t v, Try.f4.params[j]? = some t → args[j]? = some v → Value.okWide Try.prog W .any base t v := hval0
  have hW' := hW
  obtain ⟨p, q, hA0, hV, rfl, hfz, hnd⟩ := hW
  have hA : DataW.TrodAll enc Try.prog W 0 (fun _ => true) true Try.f4.params.toList args.toList ds p := hA0
  rw [Try.params4] at hA hval
  obtain ⟨v0, vs0, d0, ds0, p0, q0, hargs, rfl, rfl, h0, r0⟩ := trodAll_cons hA
  obtain ⟨v1, vs1, d1, ds1, p1, q1, rfl, rfl, rfl, h1, r1⟩ := trodAll_cons r0
  obtain ⟨rfl, rfl, rfl⟩ := trodAll_nil r1
  obtain rfl : args = #[v0, v1] := by cases args; simp_all
  obtain ⟨rfl, rfl⟩ := trodVars_none hV
  obtain ⟨a0, rfl, rfl, rfl, w0⟩ := open_string Try.underlying9 (hval 0 9 v0 rfl rfl) h0
  obtain ⟨a1, rfl, rfl, rfl, w1⟩ := open_string Try.underlying9 (hval 1 9 v1 rfl rfl) h1
  clear hA0 hval0
  simp only [List.append_nil] at hW'
  refine (walk a0 a1 w0 w1 W).mono fun e W' ⟨he, hg⟩ => ?_
  subst he
  exact ⟨_, rfl, post_of_same (pa := []) (pv := []) hW' (fun _ _ _ => (trodAll_cons_mk (shut_bool Try.underlying4 _) trodAll_mk0)) (fun sp _ => (trodAll_cons_mk (shut_string Try.underlying9 w0) (trodAll_cons_mk (shut_string Try.underlying9 w1) trodAll_mk0))) (fun _ _ => rfl) rfl
    (hg.frame _) hg.2.1 (ok_one (by kernel_rfl) rfl (okWide_bool_mk Try.underlying4 _))⟩

theorem over : Rows.fnIsLabelHyphenInsideActsAsDigitRow.holds Try.pinned (OpenSpec.ofChange Rows.fnIsLabelHyphenInsideActsAsDigitSpec) :=
  OpenClaim.holds_of_wide 4 Try.f4 rfl rfl rfl rfl rfl rfl rfl ⟨rfl, rfl, rfl, rfl, rfl⟩ rfl rfl rfl rfl rfl (by kernel_rfl) Try.func4 (by kernel_rfl)
    (of_decide_eq_true (by kernel_rfl)) (by unfold Func.isWrapper; first | (rw [if_pos (by decide +kernel)]; kernel_rfl) | (rw [if_neg (by decide +kernel)]; exact ⟨rfl, rfl⟩))
    (fun os started H enc _ => lifted os started H enc)

/-- ████ THE STATEMENT ████ -/
theorem proved : Rows.FnIsLabelHyphenInsideActsAsDigitSaid :=
  over
end Go.Proofs.Qxb6628795a.fnIsLabelHyphenInsideActsAsDigit
