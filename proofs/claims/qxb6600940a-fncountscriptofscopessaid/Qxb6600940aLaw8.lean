/-
  DERIVED. The law's walk.
-/
import Derived.Test.Qxb6600940aZZ
import Derived.Test.Qxb6600940aBuild
import Derived.Test.Qxb6600940aBytesA
namespace Go.Proofs.Qxb6600940a
open Go.RowKit

theorem topQ_words (T : List (List ByteArray)) : (topQ T T.length).length = words T := by
  rw [topQ_len]
  unfold words
  congr 1
  refine List.ext_getElem (by simp) (fun i h1 h2 => ?_)
  have hi : i < T.length := by simpa using h2
  simp [List.getD_eq_getElem?_getD, List.getElem?_eq_getElem hi]

theorem Ix.Dyn.below {I : Ix} {W w : World} {marked : Int} {mk : Nat → Int} {lv : Value} {m : Nat} {xs : List Value} (h : I.Dyn W w marked mk lv m xs) : Below I.base W w := ⟨h.os, h.tape, h.output, h.size, fun b hb => h.same b (Or.inl hb)⟩

/-- The law's answer is true, and nothing that was there has turned. -/
def TrueKept (w : World) (e : Ending) (w' : World) : Prop := e = .returned (.bool true) ∧ Below w.heap.size w w'

set_option maxHeartbeats 2000000 in
theorem law8 (vT vC vX vD vS : Value) (T : List (List ByteArray)) (C X : List ByteArray) (D : List Int) (S : List ByteArray) (sc st : ByteArray) (w : World) (hT : STab w vT T) (hC : Strs w vC C) (hX : Strs w vX X) (hD : Ints w vD D) (hS : Strs w vS S) (hsc : sc.size ≤ 9223372036854775807) (hst : st.size ≤ 9223372036854775807) :
    Calls Try.prog 8 #[vT, vC, vX, vD, vS, .string sc, .string st] w fun e w' => TrueKept w e w' := by
  obtain ⟨aT, cT, rfl⟩ := hT.slice
  obtain ⟨aC, cC, rfl⟩ := hC.slice
  obtain ⟨aX, cX, rfl⟩ := hX.slice
  obtain ⟨aD, cD, rfl⟩ := hD.slice
  obtain ⟨aS, cS, rfl⟩ := hS.slice
  have lT : T.length ≤ 9223372036854775807 := by obtain ⟨_, _, _, h, _⟩ := hT; exact h
  have lC : C.length ≤ 9223372036854775807 := by obtain ⟨_, _, _, _, h, _⟩ := hC; exact h
  have lX : X.length ≤ 9223372036854775807 := by obtain ⟨_, _, _, _, h, _⟩ := hX; exact h
  have lD : D.length ≤ 9223372036854775807 := by obtain ⟨_, _, _, _, h, _⟩ := hD; exact h
  have lS : S.length ≤ 9223372036854775807 := by obtain ⟨_, _, _, _, h, _⟩ := hS; exact h
  have HT : Hid (STab w (.slice aT T.length cT) T) := hT
  have HC : Hid (Strs w (.slice aC C.length cC) C) := hC
  have HX : Hid (Strs w (.slice aX X.length cX) X) := hX
  have HD : Hid (Ints w (.slice aD D.length cD) D) := hD
  have HS : Hid (Strs w (.slice aS S.length cS) S) := hS
  clear hT hC hX hD hS
  go_enter Try.func8, Try.ntmps8
  go_wp2_with fail
  refine (bytes8 _ T _ C _ X _ D _ S sc st w HT.out HC.out HX.out HD.out HS.out hsc hst).mono ?_
  rintro e w1 ⟨⟨r, rfl, -⟩, rfl⟩
  cases r with
  | false =>
    go_wp2
    go_ret
    exact ⟨rfl, Below.refl _ _⟩
  | true =>
    go_wp2_with fail
    refine (countBytes_any _ _ _ _ _ T C X D S sc st _ HT.out HC.out HX.out HD.out HS.out).mono ?_
    rintro e w2 ⟨⟨r, rfl, hr⟩, rfl⟩
    by_cases hb : 1048576 < r
    · go_wp2
      go_ret
      exact ⟨rfl, Below.refl _ _⟩
    · by_cases h1 : T.length ≤ 4096
      · by_cases h2 : C.length ≤ 4096
        · by_cases h3 : X.length ≤ 4096
          · by_cases h4 : D.length ≤ 4096
            · by_cases h5 : S.length ≤ 4096
              · go_wp2_with fail
                refine (premise_any _ _ _ _ T C X D _ HT.out HC.out HX.out HD.out).mono ?_
                rintro e w3 ⟨⟨r2, rfl, hp⟩, hd3⟩
                have HD3 : Hid (Drew w2 w3) := hd3
                clear hd3
                cases r2 with
                | false =>
                  go_wp2
                  go_ret
                  exact ⟨rfl, HD3.out.below _⟩
                | true =>
                  have HP : Hid (Premise T C X D) := hp rfl
                  clear hp
                  go_wp2_with fail
                  refine (asc_any _ S _ (HS.out.below (HD3.out.below _))).mono ?_
                  rintro e w4 ⟨⟨r3, rfl, ha⟩, hd4⟩
                  have HB4 : Hid (Below w2.heap.size w2 w4) := (HD3.out.trans hd4).below _
                  clear hd4 HD3
                  cases r3 with
                  | false =>
                    go_wp2
                    go_ret
                    exact ⟨rfl, HB4.out⟩
                  | true =>
                    have HA : Hid (Asc S) := ha rfl
                    clear ha
                    go_wp2_with fail
                    refine (cloneTab_any _ T _ (HT.out.below HB4.out) (by omega) (fun k hk => Nat.le_trans (row_le_words T k hk) (Nat.le_trans HP.out.2.2.2.1 (by omega)))).mono ?_
                    rintro e w5 ⟨tv, rfl, hT5, hb5⟩
                    have HB5 : Hid (Below w2.heap.size w2 w5) := HB4.out.trans (hb5.mono HB4.out.size)
                    have HT5 : Hid (STabC w5 tv T) := hT5
                    clear hT5 hb5 HB4
                    go_wp2_with fail
                    refine (cloneStrsIn_any _ C _ (HC.out.below HB5.out) (by omega)).mono ?_
                    rintro e w6 ⟨cv, rfl, hC6, hb6, -⟩
                    have HB6 : Hid (Below w2.heap.size w2 w6) := HB5.out.trans (hb6.mono HB5.out.size)
                    have HT6 : Hid (STabC w6 tv T) := HT5.out.below hb6
                    have HC6 : Hid (Strs w6 cv C) := hC6.1
                    clear hC6 hb6 HB5 HT5
                    go_wp2_with fail
                    refine (cloneStrsIn_any _ X _ (HX.out.below HB6.out) (by omega)).mono ?_
                    rintro e w7 ⟨xv, rfl, hX7, hb7, -⟩
                    have HB7 : Hid (Below w2.heap.size w2 w7) := HB6.out.trans (hb7.mono HB6.out.size)
                    have HT7 : Hid (STabC w7 tv T) := HT6.out.below hb7
                    have HC7 : Hid (Strs w7 cv C) := HC6.out.below hb7
                    have HX7 : Hid (Strs w7 xv X) := hX7.1
                    clear hX7 hb7 HB6 HT6 HC6
                    go_wp2_with fail
                    refine (cloneInts_any _ D _ (HD.out.below HB7.out) (by omega)).mono ?_
                    rintro e w8 ⟨dv, rfl, hD8, hb8⟩
                    have HB8 : Hid (Below w2.heap.size w2 w8) := HB7.out.trans (hb8.mono HB7.out.size)
                    have HT8 : Hid (STabC w8 tv T) := HT7.out.below hb8
                    have HC8 : Hid (Strs w8 cv C) := HC7.out.below hb8
                    have HX8 : Hid (Strs w8 xv X) := HX7.out.below hb8
                    have HD8 : Hid (Ints w8 dv D) := hD8
                    clear hD8 hb8 HB7 HT7 HC7 HX7
                    go_wp2_with fail
                    refine (cloneStrsIn_any _ S _ (HS.out.below HB8.out) (by omega)).mono ?_
                    rintro e w9 ⟨sv, rfl, hS9, hb9, -⟩
                    have HB9 : Hid (Below w2.heap.size w2 w9) := HB8.out.trans (hb9.mono HB8.out.size)
                    have HT9 : Hid (STabC w9 tv T) := HT8.out.below hb9
                    have HC9 : Hid (Strs w9 cv C) := HC8.out.below hb9
                    have HX9 : Hid (Strs w9 xv X) := HX8.out.below hb9
                    have HD9 : Hid (Ints w9 dv D) := HD8.out.below hb9
                    have HS9 : Hid (StrsC w9 sv S) := ⟨hS9.1, hS9.2.2⟩
                    clear hS9 hb9 HB8 HT8 HC8 HX8 HD8
                    go_wp2_with fail
                    refine (model_any _ _ _ _ _ T C X D S sc st _ HT9.out.tab HC9.out HX9.out HD9.out HS9.out.1 HP.out.1 HP.out.2.1 HP.out.2.2.1).mono ?_
                    rintro e w10 ⟨rfl, hd10⟩
                    have hb10 := hd10.below w9.heap.size
                    have HBA : Hid (Below w2.heap.size w2 w10) := HB9.out.trans (hb10.mono HB9.out.size)
                    have HTA : Hid (STabC w10 tv T) := HT9.out.below hb10
                    have HCA : Hid (Strs w10 cv C) := HC9.out.below hb10
                    have HXA : Hid (Strs w10 xv X) := HX9.out.below hb10
                    have HDA : Hid (Ints w10 dv D) := HD9.out.below hb10
                    have HSA : Hid (StrsIn (fun b => b < w10.heap.size) w10 sv S) := strsC_in (HS9.out.below hb10)
                    clear hd10 hb10 HB9 HT9 HC9 HX9 HD9 HS9
                    obtain ⟨z, hz⟩ : ∃ z, wrap64 (sumTo T C X D S sc st T.length) = z := ⟨_, rfl⟩
                    rw [hz]
                    have HZ : Hid (wrap64 (sumTo T C X D S sc st T.length) = z) := hz
                    clear hz
                    go_wp2_with fail
                    refine (build_any _ _ _ _ T C X D _ HTA.out HCA.out HXA.out HDA.out HP.out.1 HP.out.2.1 HP.out.2.2.1 h1 (by rw [topQ_words]; exact HP.out.2.2.2.1) HP.out.2.2.2.2).mono ?_
                    rintro e w11 ⟨I, rfl, hIb, hIT, hIC, hIX, hID, hstat, hdy, hb11⟩
                    have HBB : Hid (Below w2.heap.size w2 w11) := HBA.out.trans (hb11.mono HBA.out.size)
                    have HSB : Hid (StrsIn (fun b => b < I.base) w11 sv S) := by rw [hIb]; exact HSA.out.keep (fun b _ hb => hb11.block b hb)
                    have HST : Hid (I.Stat w11) := hstat
                    have HDY : Hid (I.Dyn w11 w11 0 (fun _ => 0) nilV 0 []) := hdy
                    have HZI : Hid (wrap64 (sumTo I.T I.C I.X I.D S sc st I.n) = z) := by show _ = _; unfold Ix.n; rw [hIT, hIC, hIX, hID]; exact HZ.out
                    have HIB : Hid (I.base = w10.heap.size) := hIb
                    clear hIT hIC hIX hID hstat hdy hb11 hIb
                    go_wp2_with fail
                    refine (zzCount_any I w11 w11 0 (fun _ => 0) nilV 0 [] sv S sc st HST.out HDY.out HSB.out h5 HA.out (by unfold maxLen; exact hsc) (by unfold maxLen; exact hst) (by omega) (by omega) (fun i _ => ⟨Int.le_refl _, Int.le_refl _⟩)).mono ?_
                    rintro e w12 ⟨rfl, mk, mf, lv, m, xs, hdy2, -⟩
                    rw [HZI.out]
                    have HBC : Hid (Below w2.heap.size w2 w12) := HBB.out.trans ((Ix.Dyn.below hdy2).mono (by rw [HIB.out]; exact HBA.out.size))
                    clear hdy2
                    go_wp2
                    go_ret
                    exact ⟨by simp, HBC.out⟩
              · go_wp2
                go_ret
                exact ⟨rfl, Below.refl _ _⟩
            · go_wp2
              go_ret
              exact ⟨rfl, Below.refl _ _⟩
          · go_wp2
            go_ret
            exact ⟨rfl, Below.refl _ _⟩
        · go_wp2
          go_ret
          exact ⟨rfl, Below.refl _ _⟩
      · go_wp2
        go_ret
        exact ⟨rfl, Below.refl _ _⟩
end Go.Proofs.Qxb6600940a
