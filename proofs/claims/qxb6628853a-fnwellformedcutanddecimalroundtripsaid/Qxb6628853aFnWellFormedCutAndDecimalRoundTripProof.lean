/-
  THE PROOF OF 'Rows.FnWellFormedCutAndDecimalRoundTripSaid': the frame by the guide's program (its close turned to 'Below', for '[]byte(s)' lays a row that bears a mark), the walk by hand.
-/
import Derived.Test.Qxb6628853aRows
import Derived.WalkKit
import Derived.ProofKit
import Derived.OpenShut
import Derived.ShutString
import Derived.ChangeOld
import Derived.Below
import Derived.WalkSpells
import Derived.WalkLawsBesides
import Derived.Deep.RegionWith
import Derived.Test.Qxb6628853aWalksA
namespace Go.Proofs.Qxb6628853a.fnWellFormedCutAndDecimalRoundTrip
open Go.ChangeShapes Go.WideShapes Go.ChangeAt Go.RowKit
open Go.ChangeMaps (open_string shut_string)
open Go.Proofs.Qxb6628853a.Cod
set_option linter.unusedVariables false      -- a walk need not use every 'w<i>' (that an integer argument fits its kind)

theorem own : ownKnob Try.prog.godebug = none := by kernel_rfl

/-! ### STEP 1: THE WALK: the Go text returns true. 'Below w.heap.size w w'': nothing that was there has turned. Part the cases AHEAD of 'go_enter' where a test parts the walk; take each callee by a contract of your own. -/
theorem cut_left (a : ByteArray) (k : Nat) : (a.extract 0 k ++ ({ data := #[48, 48, 48, 48, 48, 48] } : ByteArray).extract k 6).data.toList = a.data.toList.take k ++ [48, 48, 48, 48, 48, 48].drop k := by
  simp
  exact List.take_of_length_le (by simp)
theorem cut_right (a : ByteArray) (k : Nat) (h : a.size = 6) : (({ data := #[48, 48, 48, 48, 48, 48] } : ByteArray).extract 0 k ++ a.extract k 6).data.toList = [48, 48, 48, 48, 48, 48].take k ++ a.data.toList.drop k := by
  simp
  exact List.take_of_length_le (by simp; omega)

set_option maxHeartbeats 1000000 in
theorem walk (a0 : ByteArray) (a1 : Int) (w0 : a0.size ≤ maxLen) (w1 : (Lit.int .i64 a1).wf = true) (w : World) :
    Calls Try.prog 3 #[.string a0, .int .i64 a1] w fun e w' => e = .returned (.bool true) ∧ Below w.heap.size w w' := by
  by_cases h : a0.size ≤ 1048576
  · have hd : decide (a0.size ≤ 1048576) = true := by simp; omega
    by_cases hi : 0 ≤ a1 ∧ a1 ≤ a0.size
    · obtain ⟨i1, i2⟩ := hi
      obtain ⟨k, rfl⟩ := Int.eq_ofNat_of_zero_le i1
      have e1 : decide ((k : Int) < 0) = false := by simp
      have e2 : decide ((a0.size : Int) < k) = false := by simp; omega
      obtain ⟨bG, HG⟩ : ∃ b, Hid (wf a0.data.toList = b) := ⟨_, rfl⟩
      by_cases h6 : a0.size = 6
      · have b6 : ((a0.size : Int) == 6) = true := beq_iff_eq.2 (by omega)
        have k6 : k ≤ 6 := by omega
        obtain ⟨bL, HL⟩ : ∃ b, Hid (wf (a0.extract 0 k ++ ({ data := #[48, 48, 48, 48, 48, 48] } : ByteArray).extract k 6).data.toList = b) := ⟨_, rfl⟩
        obtain ⟨bR, HR⟩ : ∃ b, Hid (wf (({ data := #[48, 48, 48, 48, 48, 48] } : ByteArray).extract 0 k ++ a0.extract k 6).data.toList = b) := ⟨_, rfl⟩
        have H6 : Hid (a0.size = 6) := h6
        have HC : Hid (bG = (bL && bR)) := by
          show bG = _
          rw [← HG.out, ← HL.out, ← HR.out, cut_left a0 k, cut_right a0 k h6]
          exact wf_cut _ k (by simpa using h6) k6
        clear e1 e2 i1
        go_enter Try.func3, Try.ntmps3
        go_wp2_with (go_at_call 5; refine (bytes5_any _ _ _ w0).mono ?_; rintro e w' ⟨rfl, rfl⟩)
        refine (wf_val _ bG _ HG.out).mono ?_
        rintro e w2 ⟨rfl, hg2⟩
        go_wp2_with fail
        refine (parse_any _ _ H6.out).mono ?_
        rintro e w3 ⟨rfl, rfl⟩
        go_wp2_with fail
        refine (ren_of _ _ H6.out).mono ?_
        rintro e w4 ⟨r, rfl, Hr, hg4⟩
        have hr : (r.toList == a0.toList) = bG := by rw [Hr.out]; exact HG.out
        go_wp2_with fail
        go_region_with (go_at_call 6; refine (wf_val _ bL _ HL.out).mono ?_; rintro e w5 ⟨rfl, hg5⟩)
        go_wp2_with fail
        go_region_with (go_at_call 6; refine (wf_val _ bR _ HR.out).mono ?_; rintro e w6 ⟨rfl, hg6⟩)
        have hc := HC.out
        have hg := below_trans hg2 (below_trans hg4 (below_trans (below_trans (Below.refl _ _).drew hg5) (below_trans (Below.refl _ _).drew hg6)))
        clear HC
        cases bG <;> cases bL <;> cases bR <;> first | (exfalso; revert hc; decide) | (clear hc; go_wp2; go_ret; exact ⟨rfl, hg⟩)
      · have b6 : ((a0.size : Int) == 6) = false := beq_eq_false_iff_ne.2 (by omega)
        have hf : wf a0.data.toList = false := wf_len (by simpa using h6)
        obtain rfl : bG = false := by rw [← HG.out]; exact hf
        clear hf h6
        go_enter Try.func3, Try.ntmps3
        go_wp2_with (go_at_call 5; refine (bytes5_any _ _ _ w0).mono ?_; rintro e w' ⟨rfl, rfl⟩)
        refine (wf_val _ false _ HG.out).mono ?_
        rintro e w2 ⟨rfl, hg2⟩
        go_wp2
        go_ret
        exact ⟨rfl, hg2⟩
    · by_cases i1 : a1 < 0
      · clear hi
        go_enter Try.func3, Try.ntmps3
        go_wp2_with (go_at_call 5; refine (bytes5_any _ _ _ w0).mono ?_; rintro e w' ⟨rfl, rfl⟩)
        go_ret
        exact ⟨rfl, Below.refl _ _⟩
      · have i2 : (a0.size : Int) < a1 := by omega
        have e1 : decide (a1 < 0) = false := by simp; omega
        clear hi
        go_enter Try.func3, Try.ntmps3
        go_wp2_with (go_at_call 5; refine (bytes5_any _ _ _ w0).mono ?_; rintro e w' ⟨rfl, rfl⟩)
        go_ret
        exact ⟨rfl, Below.refl _ _⟩
  · have hd : decide (a0.size ≤ 1048576) = false := by simp; omega
    go_enter Try.func3, Try.ntmps3
    go_wp2_with (go_at_call 5; refine (bytes5_any _ _ _ w0).mono ?_; rintro e w' ⟨rfl, rfl⟩)
    go_ret
    exact ⟨rfl, Below.refl _ _⟩

/-! ### THE ROW's STEP: WRITTEN OUT: LEAVE IT -/
set_option maxRecDepth 100000 in
theorem lifted (os : Os) (started : os.Started) (H : Type) (enc : TypeId × Value → H) :
    ReturnsInHanded {} Try.checked os 3 .any (Rows.fnWellFormedCutAndDecimalRoundTripSpec.pre6 enc Try.prog Try.f3 Rows.fnWellFormedCutAndDecimalRoundTripRow.domain false) (Rows.fnWellFormedCutAndDecimalRoundTripSpec.post enc Try.prog Try.f3 false true false false) := by
  refine returnsInHanded_of_change (C := Try.checked) own started (by kernel_rfl) Try.func3
    (ChangeSpec.witness6 (enc := enc) (C := Try.checked) false ⟨#[], #[.string ByteArray.empty, .int .i64 0], []⟩ 8 (by kernel_rfl) (by kernel_rfl) (by kernel_rfl) (by kernel_rfl)) ?_
  intro W base args ds gs before hval0 hW hcnd _
  have hval : ∀ (j : Nat) t v, Try.f3.params[j]? = some t → args[j]? = some v → Value.okWide Try.prog W .any base t v := hval0
  have hW' := hW
  obtain ⟨p, q, hA0, hV, rfl, hfz, hnd⟩ := hW
  have hA : DataW.TrodAll enc Try.prog W 0 (fun _ => true) true Try.f3.params.toList args.toList ds p := hA0
  rw [Try.params3] at hA hval
  obtain ⟨v0, vs0, d0, ds0, p0, q0, hargs, rfl, rfl, h0, r0⟩ := trodAll_cons hA
  obtain ⟨v1, vs1, d1, ds1, p1, q1, rfl, rfl, rfl, h1, r1⟩ := trodAll_cons r0
  obtain ⟨rfl, rfl, rfl⟩ := trodAll_nil r1
  obtain rfl : args = #[v0, v1] := by cases args; simp_all
  obtain ⟨rfl, rfl⟩ := trodVars_none hV
  obtain ⟨a0, rfl, rfl, rfl, w0⟩ := open_string Try.underlying9 (hval 0 9 v0 rfl rfl) h0
  obtain ⟨a1, rfl, rfl, rfl, w1⟩ := open_int Try.underlying3 (hval 1 3 v1 rfl rfl) h1
  clear hA0 hval0
  refine (walk a0 a1 w0 w1 W).mono fun e W' ⟨he, bel⟩ => ?_
  subst he
  exact ⟨_, rfl, _, _, _, [], _, [], hW', trodAll_mk1 (shut_bool Try.underlying4 _), (trodAll_cons_mk (shut_string Try.underlying9 w0) (trodAll_cons_mk (shut_int Try.underlying3 w1) trodAll_mk0)), rfl, bel.frame _, fun h => by cases h⟩

theorem over : Rows.fnWellFormedCutAndDecimalRoundTripRow.holds Try.pinned (OpenSpec.ofChange Rows.fnWellFormedCutAndDecimalRoundTripSpec) :=
  OpenClaim.holds_of_wide 3 Try.f3 rfl rfl rfl rfl rfl rfl rfl ⟨rfl, rfl, rfl, rfl, rfl⟩ rfl rfl rfl rfl rfl (by kernel_rfl) Try.func3 (by kernel_rfl)
    (of_decide_eq_true (by kernel_rfl)) (by unfold Func.isWrapper; first | (rw [if_pos (by decide +kernel)]; kernel_rfl) | (rw [if_neg (by decide +kernel)]; exact ⟨rfl, rfl⟩))
    (fun os started H enc _ => lifted os started H enc)

/-- ████ THE STATEMENT ████ -/
theorem proved : Rows.FnWellFormedCutAndDecimalRoundTripSaid :=
  over
end Go.Proofs.Qxb6628853a.fnWellFormedCutAndDecimalRoundTrip
