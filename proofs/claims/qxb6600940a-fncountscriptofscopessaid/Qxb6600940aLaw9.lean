/-
  DERIVED. The law's walk.
-/
import Derived.Test.Qxb6600940aLaw8
import Derived.Test.Qxb6600940aBytesB
namespace Go.Proofs.Qxb6600940a
open Go.RowKit

set_option maxRecDepth 100000 in
set_option maxHeartbeats 4000000 in
theorem law9 (vT vC vX vD vS : Value) (T : List (List ByteArray)) (C X : List ByteArray) (D : List Int) (S : List ByteArray) (sc st : ByteArray) (vR : Value) (R : List ByteArray) (rc rt : ByteArray) (w : World) (hT : STab w vT T) (hC : Strs w vC C) (hX : Strs w vX X) (hD : Ints w vD D) (hS : Strs w vS S) (hsc : sc.size ≤ 9223372036854775807) (hst : st.size ≤ 9223372036854775807) (hR : Strs w vR R) (hrc : rc.size ≤ 9223372036854775807) (hrt : rt.size ≤ 9223372036854775807) :
    Calls Try.prog 9 #[vT, vC, vX, vD, vS, .string sc, .string st, vR, .string rc, .string rt] w fun e w' => TrueKept w e w' := by
  obtain ⟨aT, cT, rfl⟩ := hT.slice
  obtain ⟨aC, cC, rfl⟩ := hC.slice
  obtain ⟨aX, cX, rfl⟩ := hX.slice
  obtain ⟨aD, cD, rfl⟩ := hD.slice
  obtain ⟨aS, cS, rfl⟩ := hS.slice
  obtain ⟨aR, cR, rfl⟩ := hR.slice
  have lT : T.length ≤ 9223372036854775807 := by obtain ⟨_, _, _, h, _⟩ := hT; exact h
  have lC : C.length ≤ 9223372036854775807 := by obtain ⟨_, _, _, _, h, _⟩ := hC; exact h
  have lX : X.length ≤ 9223372036854775807 := by obtain ⟨_, _, _, _, h, _⟩ := hX; exact h
  have lD : D.length ≤ 9223372036854775807 := by obtain ⟨_, _, _, _, h, _⟩ := hD; exact h
  have lS : S.length ≤ 9223372036854775807 := by obtain ⟨_, _, _, _, h, _⟩ := hS; exact h
  have lR : R.length ≤ 9223372036854775807 := by obtain ⟨_, _, _, _, h, _⟩ := hR; exact h
  have HT : Hid (STab w (.slice aT T.length cT) T) := hT
  have HC : Hid (Strs w (.slice aC C.length cC) C) := hC
  have HX : Hid (Strs w (.slice aX X.length cX) X) := hX
  have HD : Hid (Ints w (.slice aD D.length cD) D) := hD
  have HS : Hid (Strs w (.slice aS S.length cS) S) := hS
  have HR : Hid (Strs w (.slice aR R.length cR) R) := hR
  clear hT hC hX hD hS hR
  go_enter Try.func9, Try.ntmps9
  go_wp2_with fail
  refine (bytes9 _ T _ C _ X _ D _ S sc st _ R rc rt w HT.out HC.out HX.out HD.out HS.out hsc hst HR.out hrc hrt).mono ?_
  rintro e w1 ⟨⟨r, rfl, -⟩, rfl⟩
  cases r with
  | false =>
    go_wp2
    go_ret
    exact ⟨rfl, Below.refl _ _⟩
  | true =>
    go_wp2_with fail
    refine (scriptBytes_any _ _ _ _ _ _ T C X D S R sc st rc rt _ HT.out HC.out HX.out HD.out HS.out HR.out).mono ?_
    rintro e w2 ⟨⟨r, rfl, hr⟩, rfl⟩
    by_cases hb : 1048576 < r
    · go_wp2
      go_ret
      exact ⟨rfl, Below.refl _ _⟩
    · by_cases h1 : T.length ≤ 4096
      · by_cases h2 : C.length ≤ 4096
        · by_cases h3 : X.length ≤ 4096
          · by_cases h4 : D.length ≤ 4096
            · by_cases h5 : S.length ≤ 4096
              · by_cases h6 : R.length ≤ 4096
                · go_wp2_with fail
                  refine (premise_any _ _ _ _ T C X D _ HT.out HC.out HX.out HD.out).mono ?_
                  rintro e w3 ⟨⟨r2, rfl, hp⟩, hd3⟩
                  have HD3 : Hid (Drew w2 w3) := hd3
                  clear hd3
                  cases r2 with
                  | false =>
                    go_wp2
                    go_ret
                    exact ⟨rfl, HD3.out.below _⟩
                  | true =>
                    have HP : Hid (Premise T C X D) := hp rfl
                    clear hp
                    go_wp2_with fail
                    refine (asc_any _ S _ (HS.out.below (HD3.out.below _))).mono ?_
                    rintro e w4 ⟨⟨r3, rfl, ha⟩, hd4⟩
                    have HD4 : Hid (Drew w2 w4) := HD3.out.trans hd4
                    clear hd4 HD3
                    cases r3 with
                    | false =>
                      go_wp2
                      go_ret
                      exact ⟨rfl, HD4.out.below _⟩
                    | true =>
                      have HA : Hid (Asc S) := ha rfl
                      clear ha
                      go_wp2_with fail
                      refine (asc_any _ R _ (HR.out.below (HD4.out.below _))).mono ?_
                      rintro e w0 ⟨⟨r4, rfl, ha2⟩, hd0⟩
                      have HB4 : Hid (Below w2.heap.size w2 w0) := (HD4.out.trans hd0).below _
                      clear hd0 HD4
                      cases r4 with
                      | false =>
                        go_wp2
                        go_ret
                        exact ⟨rfl, HB4.out⟩
                      | true =>
                        have HA2 : Hid (Asc R) := ha2 rfl
                        clear ha2
                        go_wp2_with fail
                        refine (cloneTab_any _ T _ (HT.out.below HB4.out) (by omega) (fun k hk => Nat.le_trans (row_le_words T k hk) (Nat.le_trans HP.out.2.2.2.1 (by omega)))).mono ?_
                        rintro e w5 ⟨tv, rfl, hT5, hb5⟩
                        have HB5 : Hid (Below w2.heap.size w2 w5) := HB4.out.trans (hb5.mono HB4.out.size)
                        have HT5 : Hid (STabC w5 tv T) := hT5
                        clear hT5 hb5 HB4
                        go_wp2_with fail
                        refine (cloneStrsIn_any _ C _ (HC.out.below HB5.out) (by omega)).mono ?_
                        rintro e w6 ⟨cv, rfl, hC6, hb6, -⟩
                        have HB6 : Hid (Below w2.heap.size w2 w6) := HB5.out.trans (hb6.mono HB5.out.size)
                        have HT6 : Hid (STabC w6 tv T) := HT5.out.below hb6
                        have HC6 : Hid (Strs w6 cv C) := hC6.1
                        clear hC6 hb6 HB5 HT5
                        go_wp2_with fail
                        refine (cloneStrsIn_any _ X _ (HX.out.below HB6.out) (by omega)).mono ?_
                        rintro e w7 ⟨xv, rfl, hX7, hb7, -⟩
                        have HB7 : Hid (Below w2.heap.size w2 w7) := HB6.out.trans (hb7.mono HB6.out.size)
                        have HT7 : Hid (STabC w7 tv T) := HT6.out.below hb7
                        have HC7 : Hid (Strs w7 cv C) := HC6.out.below hb7
                        have HX7 : Hid (Strs w7 xv X) := hX7.1
                        clear hX7 hb7 HB6 HT6 HC6
                        go_wp2_with fail
                        refine (cloneInts_any _ D _ (HD.out.below HB7.out) (by omega)).mono ?_
                        rintro e w8 ⟨dv, rfl, hD8, hb8⟩
                        have HB8 : Hid (Below w2.heap.size w2 w8) := HB7.out.trans (hb8.mono HB7.out.size)
                        have HT8 : Hid (STabC w8 tv T) := HT7.out.below hb8
                        have HC8 : Hid (Strs w8 cv C) := HC7.out.below hb8
                        have HX8 : Hid (Strs w8 xv X) := HX7.out.below hb8
                        have HD8 : Hid (Ints w8 dv D) := hD8
                        clear hD8 hb8 HB7 HT7 HC7 HX7
                        go_wp2_with fail
                        refine (cloneStrsIn_any _ S _ (HS.out.below HB8.out) (by omega)).mono ?_
                        rintro e w9 ⟨sv, rfl, hS9, hb9, -⟩
                        have HB9 : Hid (Below w2.heap.size w2 w9) := HB8.out.trans (hb9.mono HB8.out.size)
                        have HT9 : Hid (STabC w9 tv T) := HT8.out.below hb9
                        have HC9 : Hid (Strs w9 cv C) := HC8.out.below hb9
                        have HX9 : Hid (Strs w9 xv X) := HX8.out.below hb9
                        have HD9 : Hid (Ints w9 dv D) := HD8.out.below hb9
                        have HS9 : Hid (StrsC w9 sv S) := ⟨hS9.1, hS9.2.2⟩
                        clear hS9 hb9 HB8 HT8 HC8 HX8 HD8
                        go_wp2_with fail
                        refine (cloneStrsIn_any _ R _ (HR.out.below HB9.out) (by omega)).mono ?_
                        rintro e wA ⟨rv, rfl, hRA, hbA, -⟩
                        have HBa : Hid (Below w2.heap.size w2 wA) := HB9.out.trans (hbA.mono HB9.out.size)
                        have HTa : Hid (STabC wA tv T) := HT9.out.below hbA
                        have HCa : Hid (Strs wA cv C) := HC9.out.below hbA
                        have HXa : Hid (Strs wA xv X) := HX9.out.below hbA
                        have HDa : Hid (Ints wA dv D) := HD9.out.below hbA
                        have HSa : Hid (StrsC wA sv S) := HS9.out.below hbA
                        have HRa : Hid (StrsC wA rv R) := ⟨hRA.1, hRA.2.2⟩
                        clear hRA hbA HB9 HT9 HC9 HX9 HD9 HS9
                        go_wp2_with fail
                        refine (model_any _ _ _ _ _ T C X D S sc st _ HTa.out.tab HCa.out HXa.out HDa.out HSa.out.1 HP.out.1 HP.out.2.1 HP.out.2.2.1).mono ?_
                        rintro e wB ⟨rfl, hd10⟩
                        have hb10 := hd10.below wA.heap.size
                        have HBb : Hid (Below w2.heap.size w2 wB) := HBa.out.trans (hb10.mono HBa.out.size)
                        have HTb : Hid (STabC wB tv T) := HTa.out.below hb10
                        have HCb : Hid (Strs wB cv C) := HCa.out.below hb10
                        have HXb : Hid (Strs wB xv X) := HXa.out.below hb10
                        have HDb : Hid (Ints wB dv D) := HDa.out.below hb10
                        have HSb : Hid (StrsC wB sv S) := HSa.out.below hb10
                        have HRb : Hid (StrsC wB rv R) := HRa.out.below hb10
                        clear hd10 hb10 HBa HTa HCa HXa HDa HSa HRa
                        obtain ⟨zs, hzs⟩ : ∃ zs, wrap64 (sumTo T C X D S sc st T.length) = zs := ⟨_, rfl⟩
                        rw [hzs]
                        have Hzs : Hid (wrap64 (sumTo T C X D S sc st T.length) = zs) := hzs
                        clear hzs
                        go_wp2_with fail
                        refine (model_any _ _ _ _ _ T C X D R rc rt _ HTb.out.tab HCb.out HXb.out HDb.out HRb.out.1 HP.out.1 HP.out.2.1 HP.out.2.2.1).mono ?_
                        rintro e wC ⟨rfl, hd10⟩
                        have hb10 := hd10.below wB.heap.size
                        have HBc : Hid (Below w2.heap.size w2 wC) := HBb.out.trans (hb10.mono HBb.out.size)
                        have HTc : Hid (STabC wC tv T) := HTb.out.below hb10
                        have HCc : Hid (Strs wC cv C) := HCb.out.below hb10
                        have HXc : Hid (Strs wC xv X) := HXb.out.below hb10
                        have HDc : Hid (Ints wC dv D) := HDb.out.below hb10
                        have HSc : Hid (StrsC wC sv S) := HSb.out.below hb10
                        have HRc : Hid (StrsC wC rv R) := HRb.out.below hb10
                        clear hd10 hb10 HBb HTb HCb HXb HDb HSb HRb
                        obtain ⟨zr, hzr⟩ : ∃ zr, wrap64 (sumTo T C X D R rc rt T.length) = zr := ⟨_, rfl⟩
                        rw [hzr]
                        have Hzr : Hid (wrap64 (sumTo T C X D R rc rt T.length) = zr) := hzr
                        clear hzr
                        go_wp2_with fail
                        refine (build_any _ _ _ _ T C X D _ HTc.out HCc.out HXc.out HDc.out HP.out.1 HP.out.2.1 HP.out.2.2.1 h1 (by rw [topQ_words]; exact HP.out.2.2.2.1) HP.out.2.2.2.2).mono ?_
                        rintro e W ⟨I, rfl, hIb, hIT, hIC, hIX, hID, hstat, hdy, hb11⟩
                        have HBW : Hid (Below w2.heap.size w2 W) := HBc.out.trans (hb11.mono HBc.out.size)
                        have HSW : Hid (StrsIn (fun b => b < I.base) W sv S) := by rw [hIb]; exact (strsC_in HSc.out).keep (fun b _ hb => hb11.block b hb)
                        have HRW : Hid (StrsIn (fun b => b < I.base) W rv R) := by rw [hIb]; exact (strsC_in HRc.out).keep (fun b _ hb => hb11.block b hb)
                        have HST : Hid (I.Stat W) := hstat
                        have HDY : Hid (I.Dyn W W 0 (fun _ => 0) nilV 0 []) := hdy
                        have HZS : Hid (wrap64 (sumTo I.T I.C I.X I.D S sc st I.n) = zs) := by show _ = _; unfold Ix.n; rw [hIT, hIC, hIX, hID]; exact Hzs.out
                        have HZR : Hid (wrap64 (sumTo I.T I.C I.X I.D R rc rt I.n) = zr) := by show _ = _; unfold Ix.n; rw [hIT, hIC, hIX, hID]; exact Hzr.out
                        have HIB : Hid (w2.heap.size ≤ I.base) := by rw [hIb]; exact HBc.out.size
                        clear hIT hIC hIX hID hstat hdy hb11 hIb
                        go_wp2_with fail
                        refine (zzCount_any I W W 0 (fun _ => 0) nilV 0 [] sv S sc st HST.out HDY.out HSW.out h5 HA.out (by unfold maxLen; exact hsc) (by unfold maxLen; exact hst) (by omega) (by omega) (fun i _ => ⟨Int.le_refl _, Int.le_refl _⟩)).mono ?_
                        rintro e u1 ⟨rfl, m1, mf1, lv1, k1, xs1, hdy2, hm1, hm1', hmf⟩
                        rw [HZS.out]
                        clear HDY
                        have HDY : Hid (I.Dyn W u1 m1 mf1 lv1 k1 xs1) := hdy2
                        have HMF : Hid (∀ i, i < I.n → 0 ≤ mf1 i ∧ mf1 i ≤ m1) := hmf
                        clear hdy2 hmf
                        go_wp2_with fail
                        refine (zzCount_any I W u1 m1 mf1 lv1 k1 xs1 rv R rc rt HST.out HDY.out HRW.out h6 HA2.out (by unfold maxLen; exact hrc) (by unfold maxLen; exact hrt) (by omega) (by omega) HMF.out).mono ?_
                        rintro e u2 ⟨rfl, m2, mf2, lv2, k2, xs2, hdy2, hm2, hm2', hmf⟩
                        rw [HZR.out]
                        clear HDY HMF
                        have HDY : Hid (I.Dyn W u2 m2 mf2 lv2 k2 xs2) := hdy2
                        have HMF : Hid (∀ i, i < I.n → 0 ≤ mf2 i ∧ mf2 i ≤ m2) := hmf
                        clear hdy2 hmf
                        go_wp2_with fail
                        refine (zzCount_any I W u2 m2 mf2 lv2 k2 xs2 sv S sc st HST.out HDY.out HSW.out h5 HA.out (by unfold maxLen; exact hsc) (by unfold maxLen; exact hst) (by omega) (by omega) HMF.out).mono ?_
                        rintro e u3 ⟨rfl, m3, mf3, lv3, k3, xs3, hdy2, hm3, hm3', hmf⟩
                        rw [HZS.out]
                        clear HDY HMF
                        have HDY : Hid (I.Dyn W u3 m3 mf3 lv3 k3 xs3) := hdy2
                        have HMF : Hid (∀ i, i < I.n → 0 ≤ mf3 i ∧ mf3 i ≤ m3) := hmf
                        clear hdy2 hmf
                        go_wp2_with fail
                        refine (zzCount_any I W u3 m3 mf3 lv3 k3 xs3 rv R rc rt HST.out HDY.out HRW.out h6 HA2.out (by unfold maxLen; exact hrc) (by unfold maxLen; exact hrt) (by omega) (by omega) HMF.out).mono ?_
                        rintro e u4 ⟨rfl, m4, mf4, lv4, k4, xs4, hdy2, hm4, hm4', hmf⟩
                        rw [HZR.out]
                        clear HDY HMF
                        have HDY : Hid (I.Dyn W u4 m4 mf4 lv4 k4 xs4) := hdy2
                        have HMF : Hid (∀ i, i < I.n → 0 ≤ mf4 i ∧ mf4 i ≤ m4) := hmf
                        clear hdy2 hmf
                        have HBE : Hid (Below w2.heap.size w2 u4) := HBW.out.trans ((Ix.Dyn.below HDY.out).mono HIB.out)
                        go_wp2
                        go_ret
                        exact ⟨by simp, HBE.out⟩
                · go_wp2
                  go_ret
                  exact ⟨rfl, Below.refl _ _⟩
              · go_wp2
                go_ret
                exact ⟨rfl, Below.refl _ _⟩
            · go_wp2
              go_ret
              exact ⟨rfl, Below.refl _ _⟩
          · go_wp2
            go_ret
            exact ⟨rfl, Below.refl _ _⟩
        · go_wp2
          go_ret
          exact ⟨rfl, Below.refl _ _⟩
      · go_wp2
        go_ret
        exact ⟨rfl, Below.refl _ _⟩

end Go.Proofs.Qxb6600940a
