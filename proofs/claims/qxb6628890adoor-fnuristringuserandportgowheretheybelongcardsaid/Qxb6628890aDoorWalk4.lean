/-
  THE WALK OF FnURIStringUserAndPortGoWhereTheyBelong.
-/
import Derived.Test.Qxb6628890aDoorCutPlain
import Derived.Test.Qxb6628890aDoorItoa
namespace Go.Proofs.Qxb6628890aDoor.Uri
open Go.RowKit Go.Proofs.Qxb6628890aDoor

theorem ret_bool {a b : Bool} (h : a = b) : Ending.returned (.bool a) = .returned (.bool b) := by rw [h]

section
variable {sc us ho he rp rf : ByteArray} {L : List (ByteArray × ByteArray)} {p : List UInt8}

theorem plain_pre (ep : rp.data.toList = utext6 sc { data := #[] } ho (ptx 0) L he) : rp.data.toList = (sc ++ { data := #[58] } ++ ho).data.toList ++ (ptext L ++ htext he) := by
  rw [ep]; simp [utext6, utext_nil, ptx]

theorem plain_size (ep : rp.data.toList = (sc ++ { data := #[58] } ++ ho).data.toList ++ (ptext L ++ htext he)) (hT : tot L ≤ 1048576) (hS : sc.size + us.size + ho.size + he.size ≤ 1048576) : rp.size ≤ 4194304 := by
  have h1 := ptext_len L
  have h3 := htext_len he
  have h4 := congrArg List.length ep
  simp at h4
  omega

theorem plain_rest {pr : ByteArray} (hpr : sc ++ { data := #[58] } ++ ho = pr) (ep : rp.data.toList = (sc ++ { data := #[58] } ++ ho).data.toList ++ (ptext L ++ htext he)) : (rp.extract pr.size rp.size).data.toList = ptext L ++ htext he := by
  have e : (rp.extract pr.size rp.size).data.toList = rp.data.toList.drop pr.size := by
    simp
    exact List.take_of_length_le (by simp)
  rw [e, ep, hpr, List.drop_append_of_le_length (by simp)]
  rw [List.drop_of_length_le (by simp)]
  rfl

theorem end_is {x y r : ByteArray} (ef : rf.data.toList = utext6 sc us ho p L he) (hx : x.data.toList = utext us) (hy : y.data.toList = p) (hr : r.data.toList = ptext L ++ htext he) :
    (rf.toList == (sc ++ { data := #[58] } ++ x ++ ho ++ y ++ r).toList) = true := by
  rw [ByteArray.toList_eq, ByteArray.toList_eq, ef, beq_iff_eq]
  simp [utext6, hx, hy, hr]
theorem up_none (h : us.toList.isEmpty = true) : (ByteArray.mk #[]).data.toList = utext us := by
  rw [ByteArray.toList_eq] at h
  simp [utext, h]
theorem up_some (h : us.toList.isEmpty = false) : (us ++ { data := #[64] } : ByteArray).data.toList = utext us := by
  rw [ByteArray.toList_eq] at h
  simp [utext, h]
theorem pp_none {n : Int} (h : n = 0) : (ByteArray.mk #[]).data.toList = ptx n := by simp [ptx, h]
theorem pp_some {n : Int} {rz : ByteArray} (h : n ≠ 0) (e : rz.data.toList = Lib.itoa n) : (({ data := #[58] } : ByteArray) ++ rz).data.toList = ptx n := by simp [ptx, h, e]
end

set_option maxHeartbeats 1000000 in
theorem walk4 (sc us ho he : ByteArray) (n : Int) (L : List (ByteArray × ByteArray)) (a : Option Addr) (cap : Nat) (w : World) (z1 : sc.size ≤ maxLen) (z2 : us.size ≤ maxLen) (z3 : ho.size ≤ maxLen) (z4 : he.size ≤ maxLen) (z5 : L.length ≤ maxLen)
    (n0 : -9223372036854775808 ≤ n) (n1 : n ≤ 9223372036854775807) (htab : Lib.TabIs Tryd.prog w tabName .u64 Lib.pow10Tab) (h : AtL w a L) :
    Calls Tryd.prog 4 #[.string sc, .string us, .string ho, .int .i64 n, .slice a L.length cap, .string he] w fun e w' => e = .returned (.bool true) ∧ Below w.heap.size w w' := by
  have HB := bytes11 sc us ho he n L a cap w z1 z2 z3 z4 z5 h
  go_enter Tryd.func4, Tryd.ntmps4
  go_wp2_with fail
  refine HB.mono ?_
  rintro e w1 ⟨⟨b, rfl⟩, rfl⟩
  clear HB
  cases b with
  | false =>
    go_wp2
    go_ret
    exact ⟨rfl, Below.refl _ _⟩
  | true =>
    have HWi := within_any sc us ho he L a cap w1 z1 z2 z3 z4 z5 h
    go_wp2_with fail
    refine HWi.mono ?_
    rintro e w2 ⟨⟨b, rfl, hN⟩, n2, rfl⟩
    clear HWi
    cases b with
    | false =>
      go_wp2
      go_ret
      exact ⟨rfl, below_drewN (Below.refl _ _) n2⟩
    | true =>
      have hN' := hN rfl
      clear hN
      have hSS : sc.size + us.size + ho.size + he.size ≤ 1048576 := by omega
      have hTT : tot L ≤ 1048576 := by omega
      have hll : L.length ≤ 1048576 := by have := tot_len L; omega
      clear hN'
      have tb := Lib.tabBelow_of_tabIs htab
      have hb2 : Below w1.heap.size w1 (w1.drewN n2) := below_drewN (Below.refl _ _) n2
      have hP := params_any L a cap (w1.drewN n2) hll (h.below hb2)
      clear htab
      generalize w1.drewN n2 = W0 at *
      go_wp2_with fail
      refine hP.mono ?_
      rintro e w3 ⟨v, rfl, hmade, hb3⟩
      clear hP
      obtain ⟨am, cm, rfl, hat, _⟩ := made_cuts hmade
      clear hmade
      have hbb3 := below_trans hb2 hb3
      have hU1 := uri_at sc { data := #[] } ho he 0 L am L.length cm w3 rfl (by omega) (by omega) (by have : (ByteArray.mk #[]).size = 0 := rfl; omega) hTT (tb w3 hbb3) hat
      go_wp2_with fail
      refine hU1.mono ?_
      rintro e w4 ⟨rp, rfl, Hp, hb4⟩
      clear hU1
      have hbb4 := below_trans hbb3 hb4
      have hU2 := uri_at sc us ho he n L am L.length cm w4 rfl n0 n1 hSS hTT (tb w4 hbb4) (hat.below hb4)
      go_wp2_with fail
      refine hU2.mono ?_
      rintro e w5 ⟨rf, rfl, Hf, hb5⟩
      clear hU2
      have hbb5 := below_trans hbb4 hb5
      have ep := plain_pre Hp.out
      have hz := plain_size (us := us) ep hTT hSS
      obtain ⟨pr, Hpr⟩ : ∃ pr, Hid (sc ++ { data := #[58] } ++ ho = pr) := ⟨_, rfl⟩
      have HR : Hid ((rp.extract pr.size rp.size).data.toList = ptext L ++ htext he) := plain_rest Hpr.out ep
      rw [Hpr.out] at ep
      obtain ⟨hps, hpg⟩ := prefix_get ep
      have hPr := hasPrefix_yes rp pr w5 (by unfold maxLen; omega) hps hpg
      have hps2 : (pr.size : Int) ≤ (rp.size : Int) := by omega
      have s1 : sc.size ≤ 1048576 := by omega
      have s2 : us.size ≤ 1048576 := by omega
      have s3 : ho.size ≤ 1048576 := by omega
      clear ep hpg tb hat hb2 hb3 hb4 hb5 hbb3 hbb4 Hp
      go_wp2_with fail
      rw [Hpr.out]
      refine hPr.mono ?_
      rintro e w6 ⟨rfl, n9, rfl⟩
      clear hPr
      by_cases hn : n = 0
      · have hnb : (n != 0) = false := by simp [hn]
        cases hu : us.toList.isEmpty with
        | true =>
          go_wp2
          go_ret
          exact ⟨ret_bool (end_is Hf.out (up_none hu) (pp_none hn) HR.out), below_drewN hbb5 _⟩
        | false =>
          go_wp2
          go_ret
          exact ⟨ret_bool (end_is Hf.out (up_some hu) (pp_none hn) HR.out), below_drewN hbb5 _⟩
      · have hnb : (n != 0) = true := by simpa using hn
        have hZ := fun wx => zitoa_any n wx hn n0 n1
        cases hu : us.toList.isEmpty with
        | true =>
          go_wp2_with fail
          refine (hZ _).mono ?_
          rintro e w7 ⟨rz, rfl, Hz, hz2, hb7⟩
          clear hZ
          go_wp2
          go_ret
          exact ⟨ret_bool (end_is Hf.out (up_none hu) (pp_some hn Hz.out) HR.out), below_trans (below_drewN hbb5 _) hb7⟩
        | false =>
          go_wp2_with fail
          refine (hZ _).mono ?_
          rintro e w7 ⟨rz, rfl, Hz, hz2, hb7⟩
          clear hZ
          go_wp2
          go_ret
          exact ⟨ret_bool (end_is Hf.out (up_some hu) (pp_some hn Hz.out) HR.out), below_trans (below_drewN hbb5 _) hb7⟩
end Go.Proofs.Qxb6628890aDoor.Uri
