/-
  THE WALK OF FnURIStringCutsAtAnyParam.
-/
import Derived.Test.Qxb6628890aDoorCutPlain
namespace Go.Proofs.Qxb6628890aDoor.Uri
open Go.RowKit Go.Proofs.Qxb6628890aDoor

set_option maxHeartbeats 1000000 in
theorem walk3 (sc us ho he : ByteArray) (n k : Int) (L : List (ByteArray × ByteArray)) (a : Option Addr) (cap : Nat) (w : World) (z1 : sc.size ≤ maxLen) (z2 : us.size ≤ maxLen) (z3 : ho.size ≤ maxLen) (z4 : he.size ≤ maxLen) (z5 : L.length ≤ maxLen)
    (n0 : -9223372036854775808 ≤ n) (n1 : n ≤ 9223372036854775807) (htab : Lib.TabIs Tryd.prog w tabName .u64 Lib.pow10Tab) (h : AtL w a L) :
    Calls Tryd.prog 3 #[.string sc, .string us, .string ho, .int .i64 n, .slice a L.length cap, .string he, .int .i64 k] w fun e w' => e = .returned (.bool true) ∧ Below w.heap.size w w' := by
  have z5' : L.length ≤ 9223372036854775807 := by unfold maxLen at z5; omega
  have HB := bytes5 sc us ho he n k L a cap w z1 z2 z3 z4 z5 h
  go_enter Tryd.func3, Tryd.ntmps3
  go_wp2_with fail
  refine HB.mono ?_
  rintro e w1 ⟨⟨b, rfl⟩, rfl⟩
  clear HB
  cases b with
  | false =>
    go_wp2
    go_ret
    exact ⟨rfl, Below.refl _ _⟩
  | true =>
    have HWi := within_any sc us ho he L a cap w1 z1 z2 z3 z4 z5 h
    go_wp2_with fail
    refine HWi.mono ?_
    rintro e w2 ⟨⟨b, rfl, hN⟩, n2, rfl⟩
    clear HWi
    cases b with
    | false =>
      go_wp2
      go_ret
      exact ⟨rfl, below_drewN (Below.refl _ _) n2⟩
    | true =>
      have hN' := hN rfl
      clear hN
      by_cases hk0 : k < 0
      · go_wp2
        go_ret
        exact ⟨rfl, below_drewN (Below.refl _ _) n2⟩
      · obtain ⟨k, rfl⟩ := Int.eq_ofNat_of_zero_le (show 0 ≤ k by omega)
        have d0 : decide ((k : Int) < 0) = false := by simp
        clear hk0
        by_cases hk1 : L.length < k
        · go_wp2
          go_ret
          exact ⟨rfl, below_drewN (Below.refl _ _) n2⟩
        · have d1 : decide ((L.length : Int) < (k : Int)) = false := by simp; omega
          have hk2 : k ≤ L.length := by omega
          have hSS : sc.size + us.size + ho.size + he.size ≤ 1048576 := by omega
          have hTT : tot L ≤ 1048576 := by omega
          have hll : L.length ≤ 1048576 := by have := tot_len L; omega
          clear hN'
          have tb := Lib.tabBelow_of_tabIs htab
          have hb2 : Below w1.heap.size w1 (w1.drewN n2) := below_drewN (Below.refl _ _) n2
          have hP := params_any L a cap (w1.drewN n2) hll (h.below hb2)
          clear htab
          generalize w1.drewN n2 = W0 at *
          go_wp2_with fail
          refine hP.mono ?_
          rintro e w3 ⟨v, rfl, hmade, hb3⟩
          clear hP
          obtain ⟨am, cm, rfl, hat, hcuts⟩ := made_cuts hmade
          obtain ⟨a1, c1, a2, c2, hs1, hs2, at1, at2⟩ := hcuts k hk2
          clear hcuts hmade
          have hbb3 := below_trans hb2 hb3
          have hU1 := uri_at sc us ho he n L am L.length cm w3 rfl n0 n1 hSS hTT (tb w3 hbb3) hat
          go_wp2_with fail
          refine hU1.mono ?_
          rintro e w4 ⟨rf, rfl, Hf, hb4⟩
          clear hU1
          have hbb4 := below_trans hbb3 hb4
          have hl1 : (L.take k).length = k := by rw [List.length_take]; omega
          have hU2 := uri_at sc us ho { data := #[] } n (L.take k) a1 k c1 w4 hl1 n0 n1 (by have : (ByteArray.mk #[]).size = 0 := rfl; omega) (Nat.le_trans (tot_take L k) hTT) (tb w4 hbb4) (at1.below hb4)
          clear hl1
          go_wp2_with fail
          refine hU2.mono ?_
          rintro e w5 ⟨rh, rfl, Hh, hb5⟩
          clear hU2
          have hbb5 := below_trans hbb4 hb5
          have hl2 : (L.drop k).length = L.length - k := by rw [List.length_drop]
          have hU3 := uri_at { data := #[] } { data := #[] } { data := #[] } he 0 (L.drop k) a2 (L.length - k) c2 w5 hl2 (by omega) (by omega) (by have : (ByteArray.mk #[]).size = 0 := rfl; omega) (Nat.le_trans (tot_drop L k) hTT) (tb w5 hbb5) ((at2.below hb4).below hb5)
          clear hl2
          go_wp2_with fail
          refine hU3.mono ?_
          rintro e w6 ⟨rt, rfl, Ht, hb6⟩
          clear hU3
          have hbb6 := below_trans hbb5 hb6
          have et := tail_text Ht.out
          obtain ⟨q0, q1⟩ := tail_size et hTT (by omega)
          have b0 : ((rt.size : Int) == 0) = false := beq_eq_false_iff_ne.2 (by omega)
          have b1 : ((rt[0].toNat : Int) != 58) = false := by rw [tail_first et q0]; rfl
          have hh := head_size Hh.out (ptx_len n n0 n1) hTT hSS
          have b2 := full_is Hf.out Hh.out et
          have ET : Hid (rt.data.toList = 58 :: (ptext (L.drop k) ++ htext he)) := et
          clear et hs1 hs2 tb hat at1 at2 Hf Hh Ht hb2 hb3 hb4 hb5 hb6 hbb3 hbb4 hbb5
          have q2 : 1 ≤ (rt.size : Int) := by omega
          by_cases hkk : k = L.length
          · have bk : ((k : Int) == (L.length : Int)) = true := beq_iff_eq.2 (by omega)
            have HR : Hid ((rt.extract 1 rt.size).data.toList = htext he) := rest_end ET.out hkk
            clear hkk
            cases hhe : he.toList.isEmpty with
            | true =>
              have hrr : (rt.extract 1 rt.size).toList.isEmpty = true := by
                rw [ByteArray.toList_eq, HR.out]; rw [ByteArray.toList_eq] at hhe; simp [htext, hhe]
              go_wp2
              go_ret
              exact ⟨rfl, hbb6⟩
            | false =>
              have hrr : ((rt.extract 1 rt.size).toList == ({ data := #[63] } ++ he : ByteArray).toList) = true := by
                rw [ByteArray.toList_eq, ByteArray.toList_eq, HR.out]; rw [ByteArray.toList_eq] at hhe; simp [htext, hhe]
              go_wp2
              go_ret
              exact ⟨rfl, hbb6⟩
          · have hkl : k < L.length := by omega
            have bk : ((k : Int) == (L.length : Int)) = false := beq_eq_false_iff_ne.2 (by omega)
            clear hkk
            have HR2 : Hid ((rt.extract 1 rt.size).data.toList = ptext (L.drop k) ++ htext he) := rest_text ET.out
            have HR : Hid ((rt.extract 1 rt.size).data.toList = one L[k] ++ (ptext (L.drop (k + 1)) ++ htext he)) := by
              show _ = _
              rw [HR2.out, drop_at hkl, List.append_assoc]
            have hrs : (rt.extract 1 rt.size).size = rt.size - 1 := by simp [ByteArray.size_extract]
            have Hrs : Hid ((rt.extract 1 rt.size).size = rt.size - 1) := hrs
            clear hrs
            rcases h with rfl | ⟨blk, o, rfl, hlt, hp⟩
            · simp at hkl
            obtain ⟨g0, g1⟩ := (Pairs.below hp hbb6 hlt) k hkl
            have ht := tot_at L k hkl
            obtain ⟨nm, vl, hpr⟩ : ∃ nm vl, L[k] = (nm, vl) := ⟨L[k].1, L[k].2, rfl⟩
            rw [hpr] at g0 g1 ht HR
            simp only at g0 g1 ht
            have nm1 : nm.size ≤ 1048576 := by omega
            have vl1 : vl.size ≤ 1048576 := by omega
            clear hp ht hpr
            cases hve : vl.toList.isEmpty with
            | true =>
              have hvv : (nm, vl).2.data.toList.isEmpty = true := by rw [← ByteArray.toList_eq]; exact hve
              cases hhe : he.toList.isEmpty with
              | true =>
                have hhe2 : he.data.toList.isEmpty = true := by rw [← ByteArray.toList_eq]; exact hhe
                obtain ⟨hps, hpg⟩ := prefix_get (s := rt.extract 1 rt.size) (p := ({ data := #[59] } ++ nm)) (t := ptext (L.drop (k + 1)) ++ htext he) (by rw [HR.out, one_none hvv]; simp)
                obtain ⟨hps2, hpg2⟩ := suffix_get (s := rt.extract 1 rt.size) (p := { data := #[] }) (t := ptext (L.drop k)) (by rw [HR2.out]; simp [htext, hhe2])
                have HP := hasPrefix_yes (rt.extract 1 rt.size) ({ data := #[59] } ++ nm) w6 (by rw [Hrs.out]; unfold maxLen; omega) hps hpg
                have HSf := fun m => hasSuffix_yes (rt.extract 1 rt.size) { data := #[] } (w6.drewN m) (by rw [Hrs.out]; unfold maxLen; omega) hps2 hpg2
                clear hps hpg hps2 hpg2
                go_wp2_with fail
                refine HP.mono ?_
                rintro e w7 ⟨rfl, n9, rfl⟩
                clear HP
                go_wp2_with fail
                refine (HSf n9).mono ?_
                rintro e w8 ⟨rfl, n10, rfl⟩
                clear HSf
                go_wp2
                go_ret
                exact ⟨rfl, below_drewN hbb6 _⟩
              | false =>
                have hhe2 : he.data.toList.isEmpty = false := by rw [← ByteArray.toList_eq]; exact hhe
                obtain ⟨hps, hpg⟩ := prefix_get (s := rt.extract 1 rt.size) (p := ({ data := #[59] } ++ nm)) (t := ptext (L.drop (k + 1)) ++ htext he) (by rw [HR.out, one_none hvv]; simp)
                obtain ⟨hps2, hpg2⟩ := suffix_get (s := rt.extract 1 rt.size) (p := ({ data := #[63] } ++ he)) (t := ptext (L.drop k)) (by rw [HR2.out]; simp [htext, hhe2])
                have HP := hasPrefix_yes (rt.extract 1 rt.size) ({ data := #[59] } ++ nm) w6 (by rw [Hrs.out]; unfold maxLen; omega) hps hpg
                have HSf := fun m => hasSuffix_yes (rt.extract 1 rt.size) ({ data := #[63] } ++ he) (w6.drewN m) (by rw [Hrs.out]; unfold maxLen; omega) hps2 hpg2
                clear hps hpg hps2 hpg2
                go_wp2_with fail
                refine HP.mono ?_
                rintro e w7 ⟨rfl, n9, rfl⟩
                clear HP
                go_wp2_with fail
                refine (HSf n9).mono ?_
                rintro e w8 ⟨rfl, n10, rfl⟩
                clear HSf
                go_wp2
                go_ret
                exact ⟨rfl, below_drewN hbb6 _⟩
            | false =>
              have hvv : (nm, vl).2.data.toList.isEmpty = false := by rw [← ByteArray.toList_eq]; exact hve
              cases hhe : he.toList.isEmpty with
              | true =>
                have hhe2 : he.data.toList.isEmpty = true := by rw [← ByteArray.toList_eq]; exact hhe
                obtain ⟨hps, hpg⟩ := prefix_get (s := rt.extract 1 rt.size) (p := ({ data := #[59] } ++ nm ++ { data := #[61] } ++ vl)) (t := ptext (L.drop (k + 1)) ++ htext he) (by rw [HR.out, one_some hvv]; simp)
                obtain ⟨hps2, hpg2⟩ := suffix_get (s := rt.extract 1 rt.size) (p := { data := #[] }) (t := ptext (L.drop k)) (by rw [HR2.out]; simp [htext, hhe2])
                have HP := hasPrefix_yes (rt.extract 1 rt.size) ({ data := #[59] } ++ nm ++ { data := #[61] } ++ vl) w6 (by rw [Hrs.out]; unfold maxLen; omega) hps hpg
                have HSf := fun m => hasSuffix_yes (rt.extract 1 rt.size) { data := #[] } (w6.drewN m) (by rw [Hrs.out]; unfold maxLen; omega) hps2 hpg2
                clear hps hpg hps2 hpg2
                go_wp2_with fail
                refine HP.mono ?_
                rintro e w7 ⟨rfl, n9, rfl⟩
                clear HP
                go_wp2_with fail
                refine (HSf n9).mono ?_
                rintro e w8 ⟨rfl, n10, rfl⟩
                clear HSf
                go_wp2
                go_ret
                exact ⟨rfl, below_drewN hbb6 _⟩
              | false =>
                have hhe2 : he.data.toList.isEmpty = false := by rw [← ByteArray.toList_eq]; exact hhe
                obtain ⟨hps, hpg⟩ := prefix_get (s := rt.extract 1 rt.size) (p := ({ data := #[59] } ++ nm ++ { data := #[61] } ++ vl)) (t := ptext (L.drop (k + 1)) ++ htext he) (by rw [HR.out, one_some hvv]; simp)
                obtain ⟨hps2, hpg2⟩ := suffix_get (s := rt.extract 1 rt.size) (p := ({ data := #[63] } ++ he)) (t := ptext (L.drop k)) (by rw [HR2.out]; simp [htext, hhe2])
                have HP := hasPrefix_yes (rt.extract 1 rt.size) ({ data := #[59] } ++ nm ++ { data := #[61] } ++ vl) w6 (by rw [Hrs.out]; unfold maxLen; omega) hps hpg
                have HSf := fun m => hasSuffix_yes (rt.extract 1 rt.size) ({ data := #[63] } ++ he) (w6.drewN m) (by rw [Hrs.out]; unfold maxLen; omega) hps2 hpg2
                clear hps hpg hps2 hpg2
                go_wp2_with fail
                refine HP.mono ?_
                rintro e w7 ⟨rfl, n9, rfl⟩
                clear HP
                go_wp2_with fail
                refine (HSf n9).mono ?_
                rintro e w8 ⟨rfl, n10, rfl⟩
                clear HSf
                go_wp2
                go_ret
                exact ⟨rfl, below_drewN hbb6 _⟩

end Go.Proofs.Qxb6628890aDoor.Uri
