/-
  DERIVED. The law's walk.
-/
import Derived.Test.Qxb6603051aEqH
import Derived.Test.Qxb6603051aClone2
import Derived.Test.Qxb6603051aBytes
namespace Go.Proofs.Qxb6603051a
open Go.RowKit Go.Maps

theorem CellsKept.ints {w w' : World} (h : CellsKept w w') {v : Value} {S : List Int} (hs : Ints w v S) : Ints w' v S := by
  obtain ⟨a, cap, rfl, hn, hl, hc⟩ := hs
  refine ⟨a, cap, rfl, hn, hl, fun k hk => ?_⟩
  obtain ⟨b, o, h2, h3⟩ := hc k hk
  exact ⟨b, o, h2, h.cell h3⟩
theorem CellsKept.stab {w w' : World} (h : CellsKept w w') {v : Value} {T : List (List ByteArray)} (hs : STab w v T) : STab w' v T := by
  obtain ⟨a, cap, rfl, hl, hc⟩ := hs
  refine ⟨a, cap, rfl, hl, fun k hk => ?_⟩
  obtain ⟨b, o, u, h1, h2, h3⟩ := hc k hk
  exact ⟨b, o, u, h1, h.cell h2, h.strs h3⟩
theorem CellsKept.itab {w w' : World} (h : CellsKept w w') {v : Value} {T : List (List Int)} (hs : ITab w v T) : ITab w' v T := by
  obtain ⟨a, cap, rfl, hl, hc⟩ := hs
  refine ⟨a, cap, rfl, hl, fun k hk => ?_⟩
  obtain ⟨b, o, u, h1, h2, h3⟩ := hc k hk
  exact ⟨b, o, u, h1, h.cell h2, h.ints h3⟩

theorem cost_zip : ∀ (E : List ByteArray) (P : List (List ByteArray)), cost (E.zip P) ≤ 2 * words P + P.length
  | [], P => by simp [cost]
  | _ :: _, [] => by simp [cost]
  | e :: E, p :: P => by
    have ih := cost_zip E P
    have e1 : cost ((e :: E).zip (p :: P)) = 2 * p.length + 1 + cost (E.zip P) := by simp [cost]
    have e2 : words (p :: P) = p.length + words P := by simp [words]
    rw [e1, e2, List.length_cons]
    omega

/-- What count leaves. -/
def Counted (w : World) (hb n : Nat) (s : Abs) (e : Ending) (w' : World) : Prop := e = .returned (.tuple #[]) ∧ (∃ fm', HS w' hb n s fm') ∧ CellsKept w w' ∧ Below hb w w'

set_option maxHeartbeats 400000 in
theorem zzCount_any (hb n : Nat) (s : Abs) (fm : ByteArray → Option Nat) (P : List (ByteArray × List ByteArray)) (pv : Value) (d : Int) (w : World) (hH : HS w hb n s fm) (hP : PlTab w pv P) (hn : n + cost P < 1073741824) :
    Calls Try.prog 33 #[.map (some hb), pv, .int .i64 d] w fun e w' => Counted w hb (n + cost P) (allPl d s P) e w' := by
  have HC : Hid (Calls Try.prog 46 #[.map (some hb), pv, .int .i64 d] w fun e w' => e = .returned (.tuple #[]) ∧ (∃ fm', HS w' hb (n + cost P) (allPl d s P) fm') ∧ CellsKept w w' ∧ Below hb w w') := count_any hb n s fm P pv d w hH hP hn
  clear hH hP hn
  go_enter Try.func33, Try.ntmps33
  go_wp2_with fail
  refine HC.out.mono ?_
  rintro e w' ⟨rfl, hc⟩
  have HE : Hid _ := hc
  clear hc
  go_wp2
  exact bodyPost_end (v := .tuple #[]) (by simp [results, Try.results33, go_sem]) rfl ⟨rfl, HE.out⟩

/-- The law's answer is true, and nothing that was there has turned. -/
def TrueKept (w : World) (e : Ending) (w' : World) : Prop := e = .returned (.bool true) ∧ Below w.heap.size w w'

set_option maxRecDepth 100000 in
set_option maxHeartbeats 4000000 in
theorem law8 (vA vR vL vK vN vE vP : Value) (A : List ByteArray) (R L : List Int) (K : List (List ByteArray)) (N : List (List Int)) (E : List ByteArray) (P : List (List ByteArray)) (d : Int) (w : World)
    (hA : Strs w vA A) (hR : Ints w vR R) (hL : Ints w vL L) (hK : STab w vK K) (hN : ITab w vN N) (hE : Strs w vE E) (hP : STab w vP P) (rR : ∀ i, inRange (R.getD i 0)) (rL : ∀ i, inRange (L.getD i 0)) (rN : ∀ i j, inRange ((N.getD i []).getD j 0)) :
    Calls Try.prog 8 #[vA, vR, vL, vK, vN, vE, vP, .int .i64 d] w fun e w' => TrueKept w e w' := by
  have HA : Hid (Strs w vA A) := hA
  have HR : Hid (Ints w vR R) := hR
  have HL : Hid (Ints w vL L) := hL
  have HK : Hid (STab w vK K) := hK
  have HN : Hid (ITab w vN N) := hN
  have HE : Hid (Strs w vE E) := hE
  have HP : Hid (STab w vP P) := hP
  have HOK : Hid ((absOf A R L K N A.length).Ok) := absOf_ok rR rL rN _
  clear hA hR hL hK hN hE hP rR rL rN
  obtain ⟨d2, hd2⟩ : ∃ d2, wrap64 (-d) = d2 := ⟨_, rfl⟩
  have hd3 : IntKind.i64.wrap (-d) = d2 := by rw [← hd2, IntKind.wrap_i64]; unfold wrap64; omega
  have HD2 : Hid (wrap64 (-d) = d2) := hd2
  go_enter Try.func8, Try.ntmps8
  go_wp2_with fail
  refine (bytes36 _ A _ R _ L _ K _ N _ E _ P d w HA.out HR.out HL.out HK.out HN.out HE.out HP.out).mono ?_
  rintro e w1 ⟨⟨r, rfl, -⟩, rfl⟩
  cases r with
  | false =>
    go_wp2
    go_ret
    exact ⟨rfl, Below.refl _ _⟩
  | true =>
    go_wp2_with fail
    refine (heldBytes_any _ _ _ _ _ _ _ A R L K N E P _ HA.out HR.out HL.out HK.out HN.out HE.out HP.out).mono ?_
    rintro e w2 ⟨⟨r, rfl, hr⟩, rfl⟩
    by_cases hb : 1048576 < r
    · clear hr
      go_wp2
      go_ret
      exact ⟨rfl, Below.refl _ _⟩
    · have HSM : Hid (Small A R L K N E P) := hr (by omega)
      clear hr
      go_wp2_with fail
      refine (fits_any _ _ _ _ _ _ _ A R L K N E P _ HA.out HR.out HL.out HK.out HN.out HE.out HP.out HSM.out).mono ?_
      rintro e w3 ⟨⟨r2, rfl, hp⟩, hb3⟩
      have HB3 : Hid (Below w2.heap.size w2 w3) := hb3
      clear hb3
      cases r2 with
      | false =>
        clear hp
        go_wp2
        go_ret
        exact ⟨rfl, HB3.out⟩
      | true =>
        have HF : Hid (Fits A R L K N E P) := hp rfl
        clear hp
        have s1 : A.length ≤ 1048576 := by have := HSM.out.1; omega
        have s2 : R.length ≤ 1048576 := by have := HSM.out.2.1; omega
        have s3 : L.length ≤ 1048576 := by have := HSM.out.2.2.1; omega
        have s4 : K.length ≤ 1048576 := by have := HSM.out.2.2.2.1; omega
        have s5 : ∀ k, k < K.length → (K.getD k []).length ≤ 1048576 := fun k hk => by have := row_le_words K k hk; have := HSM.out.2.2.2.2.1; omega
        have s6 : N.length ≤ 1048576 := by have := HSM.out.2.2.2.2.2.1; omega
        have s7 : ∀ k, k < N.length → (N.getD k []).length ≤ 1048576 := fun k hk => by have := row_le_words N k hk; have := HSM.out.2.2.2.2.2.2.1; omega
        have s8 : E.length ≤ 1048576 := by have := HSM.out.2.2.2.2.2.2.2.1; omega
        have s9 : P.length ≤ 1048576 := by have := HSM.out.2.2.2.2.2.2.2.2.1; omega
        have s10 : ∀ k, k < P.length → (P.getD k []).length ≤ 1048576 := fun k hk => by have := row_le_words P k hk; have := HSM.out.2.2.2.2.2.2.2.2.2; omega
        have S5 : Hid (∀ k, k < K.length → (K.getD k []).length ≤ 1048576) := s5
        have S7 : Hid (∀ k, k < N.length → (N.getD k []).length ≤ 1048576) := s7
        have S10 : Hid (∀ k, k < P.length → (P.getD k []).length ≤ 1048576) := s10
        clear s5 s7 s10
        go_wp2_with fail
        refine (cloneStrsIn_any _ A _ (HA.out.below HB3.out) s1).mono ?_
        rintro e w4 ⟨cA, rfl, h4, hb4, -⟩
        have HB4 : Hid (Below w2.heap.size w2 w4) := HB3.out.trans (hb4.mono HB3.out.size)
        have A4 : Hid (Strs w4 cA A) := h4.1
        clear h4 hb4 HB3
        go_wp2_with fail
        refine (cloneInts_any _ R _ (HR.out.below HB4.out) s2).mono ?_
        rintro e w5 ⟨cR, rfl, h5, hb5⟩
        have HB5 : Hid (Below w2.heap.size w2 w5) := HB4.out.trans (hb5.mono HB4.out.size)
        have A5 : Hid (Strs w5 cA A) := A4.out.below hb5
        have R5 : Hid (Ints w5 cR R) := h5
        clear h5 hb5 HB4 A4
        go_wp2_with fail
        refine (cloneInts_any _ L _ (HL.out.below HB5.out) s3).mono ?_
        rintro e w6 ⟨cL, rfl, h6, hb6⟩
        have HB6 : Hid (Below w2.heap.size w2 w6) := HB5.out.trans (hb6.mono HB5.out.size)
        have A6 : Hid (Strs w6 cA A) := A5.out.below hb6
        have R6 : Hid (Ints w6 cR R) := R5.out.below hb6
        have L6 : Hid (Ints w6 cL L) := h6
        clear h6 hb6 HB5 A5 R5
        go_wp2_with fail
        refine (cloneTab_any _ K _ (HK.out.below HB6.out) s4 S5.out).mono ?_
        rintro e w7 ⟨cK, rfl, h7, hb7⟩
        have HB7 : Hid (Below w2.heap.size w2 w7) := HB6.out.trans (hb7.mono HB6.out.size)
        have A7 : Hid (Strs w7 cA A) := A6.out.below hb7
        have R7 : Hid (Ints w7 cR R) := R6.out.below hb7
        have L7 : Hid (Ints w7 cL L) := L6.out.below hb7
        have K7 : Hid (STab w7 cK K) := h7.tab
        clear h7 hb7 HB6 A6 R6 L6
        go_wp2_with fail
        refine (cloneITab_any _ N _ (HN.out.below HB7.out) s6 S7.out).mono ?_
        rintro e w8 ⟨cN, rfl, h8, hb8⟩
        have HB8 : Hid (Below w2.heap.size w2 w8) := HB7.out.trans (hb8.mono HB7.out.size)
        have A8 : Hid (Strs w8 cA A) := A7.out.below hb8
        have R8 : Hid (Ints w8 cR R) := R7.out.below hb8
        have L8 : Hid (Ints w8 cL L) := L7.out.below hb8
        have K8 : Hid (STab w8 cK K) := K7.out.below hb8
        have N8 : Hid (ITab w8 cN N) := h8
        clear h8 hb8 HB7 A7 R7 L7 K7
        go_wp2_with fail
        refine (cloneStrsIn_any _ E _ (HE.out.below HB8.out) s8).mono ?_
        rintro e w9 ⟨cE, rfl, h9, hb9, -⟩
        have HB9 : Hid (Below w2.heap.size w2 w9) := HB8.out.trans (hb9.mono HB8.out.size)
        have A9 : Hid (Strs w9 cA A) := A8.out.below hb9
        have R9 : Hid (Ints w9 cR R) := R8.out.below hb9
        have L9 : Hid (Ints w9 cL L) := L8.out.below hb9
        have K9 : Hid (STab w9 cK K) := K8.out.below hb9
        have N9 : Hid (ITab w9 cN N) := N8.out.below hb9
        have E9 : Hid (Strs w9 cE E) := h9.1
        clear h9 hb9 HB8 A8 R8 L8 K8 N8
        go_wp2_with fail
        refine (cloneTab_any _ P _ (HP.out.below HB9.out) s9 S10.out).mono ?_
        rintro e wa ⟨cP, rfl, ha, hba⟩
        have HBa : Hid (Below w2.heap.size w2 wa) := HB9.out.trans (hba.mono HB9.out.size)
        have Aa : Hid (Strs wa cA A) := A9.out.below hba
        have Ra : Hid (Ints wa cR R) := R9.out.below hba
        have La : Hid (Ints wa cL L) := L9.out.below hba
        have Ka : Hid (STab wa cK K) := K9.out.below hba
        have Na : Hid (ITab wa cN N) := N9.out.below hba
        have Ea : Hid (Strs wa cE E) := E9.out.below hba
        have Pa : Hid (STab wa cP P) := ha.tab
        clear ha hba HB9 A9 R9 L9 K9 N9 E9
        go_wp2_with fail
        refine (buildHeld_any _ _ _ _ _ A R L K N E P _ Aa.out Ra.out La.out Ka.out Na.out HSM.out HF.out).mono ?_
        rintro e wb ⟨hb, fm, rfl, hhb, hHS, hbb⟩
        have HHB : Hid (w2.heap.size ≤ hb) := Nat.le_trans HBa.out.size hhb
        have HBb : Hid (Below w2.heap.size w2 wb) := HBa.out.trans (hbb.mono HBa.out.size)
        have CKb : Hid (CellsKept wa wb) := cells_below hbb
        have HSb : Hid (HS wb hb (A.length + words K) (absOf A R L K N A.length) fm) := hHS
        have Eb : Hid (Strs wb cE E) := Ea.out.below hbb
        have Pb : Hid (STab wb cP P) := Pa.out.below hbb
        clear hhb hHS hbb HBa Ea Pa
        go_wp2_with fail
        refine (place_any _ _ E P _ Eb.out Pb.out HF.out.2.2.2.2.1 HSM.out.2.2.2.2.2.2.2.1).mono ?_
        rintro e wc ⟨pv, rfl, hpl, hbc⟩
        have HBc : Hid (Below w2.heap.size w2 wc) := HBb.out.trans (hbc.mono HBb.out.size)
        have CKc : Hid (CellsKept wa wc) := CKb.out.trans (cells_below hbc)
        have HSc : Hid (HS wc hb (A.length + words K) (absOf A R L K N A.length) fm) := HSb.out.later hbc
        have PLc : Hid (PlTab wc pv (E.zip P)) := hpl
        have hco : A.length + words K + cost (E.zip P) + cost (E.zip P) < 1073741824 := by
          have h1 := cost_zip E P
          have h2 := HSM.out.1
          have h3 := HSM.out.2.2.2.2.1
          have h4 := HSM.out.2.2.2.2.2.2.2.2.1
          have h5 := HSM.out.2.2.2.2.2.2.2.2.2
          omega
        clear hpl hbc HBb CKb HSb Eb Pb
        go_wp2_with fail
        refine (zzCount_any hb _ _ fm (E.zip P) pv d _ HSc.out PLc.out (by omega)).mono ?_
        rintro e wd ⟨rfl, ⟨fm1, hS1⟩, hck1, hbl1⟩
        have HBd : Hid (Below w2.heap.size w2 wd) := HBc.out.trans (hbl1.mono HHB.out)
        have CKd : Hid (CellsKept wa wd) := CKc.out.trans hck1
        have HSd : Hid (HS wd hb (A.length + words K + cost (E.zip P)) (allPl d (absOf A R L K N A.length) (E.zip P)) fm1) := hS1
        have PLd : Hid (PlTab wd pv (E.zip P)) := hck1.pl PLc.out
        clear hS1 hck1 hbl1 HBc CKc HSc PLc
        go_wp2_with fail
        refine (zzCount_any hb _ _ fm1 (E.zip P) pv d2 _ HSd.out PLd.out (by omega)).mono ?_
        rintro e we ⟨rfl, ⟨fm2, hS2⟩, hck2, hbl2⟩
        have HBe : Hid (Below w2.heap.size w2 we) := HBd.out.trans (hbl2.mono HHB.out)
        have CKe : Hid (CellsKept wa we) := CKd.out.trans hck2
        have HSe : Hid (HS we hb (A.length + words K + cost (E.zip P) + cost (E.zip P)) (absOf A R L K N A.length) fm2) := by
          have := hS2
          rw [← HD2.out, back_all d _ HOK.out (E.zip P)] at this
          exact this
        clear hS2 hck2 hbl2 HBd CKd HSd PLd
        go_wp2_with fail
        refine (equals_any _ _ _ _ _ A R L K N E P _ hb _ fm2 (CKe.out.strs Aa.out) (CKe.out.ints Ra.out) (CKe.out.ints La.out) (CKe.out.stab Ka.out) (CKe.out.itab Na.out) HSM.out HF.out HSe.out).mono ?_
        rintro e wf ⟨rfl, hbf⟩
        have HBf : Hid (Below w2.heap.size w2 wf) := HBe.out.trans (hbf.mono HBe.out.size)
        clear hbf
        go_wp2
        go_ret
        exact ⟨rfl, HBf.out⟩
end Go.Proofs.Qxb6603051a
