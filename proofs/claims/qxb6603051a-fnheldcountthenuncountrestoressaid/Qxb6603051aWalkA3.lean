/-
  DERIVED. The law's count of bytes, whole.
-/
import Derived.Test.Qxb6603051aWalkA2
namespace Go.Proofs.Qxb6603051a
open Go.RowKit

/-- What a count within the cap tells of the lengths. -/
def Small (A : List ByteArray) (R L : List Int) (K : List (List ByteArray)) (N : List (List Int)) (E : List ByteArray) (P : List (List ByteArray)) : Prop :=
  A.length ≤ 65536 ∧ R.length ≤ 131072 ∧ L.length ≤ 131072 ∧ K.length ≤ 65536 ∧ words K ≤ 65536 ∧ N.length ≤ 65536 ∧ words N ≤ 131072 ∧ E.length ≤ 65536 ∧ P.length ≤ 65536 ∧ words P ≤ 65536

set_option maxRecDepth 100000 in
set_option maxHeartbeats 2000000 in
theorem heldBytes_any (vA vR vL vK vN vE vP : Value) (A : List ByteArray) (R L : List Int) (K : List (List ByteArray)) (N : List (List Int)) (E : List ByteArray) (P : List (List ByteArray)) (w : World)
    (hA : Strs w vA A) (hR : Ints w vR R) (hL : Ints w vL L) (hK : STab w vK K) (hN : ITab w vN N) (hE : Strs w vE E) (hP : STab w vP P) :
    Calls Try.prog 29 #[vA, vR, vL, vK, vN, vE, vP] w fun e w' => RetI (fun r => r ≤ 1048576 → Small A R L K N E P) e ∧ w' = w := by
  obtain ⟨aR, cR, rfl, _, lR, _⟩ := hR
  obtain ⟨aL, cL, rfl, _, lL, _⟩ := hL
  obtain ⟨aN, cN, rfl, lN, hcN⟩ := hN
  obtain ⟨aA, cA, rfl⟩ := hA.slice
  obtain ⟨aK, cK, rfl⟩ := hK.slice
  obtain ⟨aE, cE, rfl⟩ := hE.slice
  obtain ⟨aP, cP, rfl⟩ := hP.slice
  have HA : Hid (Strs w (.slice aA A.length cA) A) := hA
  have HK : Hid (STab w (.slice aK K.length cK) K) := hK
  have HE : Hid (Strs w (.slice aE E.length cE) E) := hE
  have HP : Hid (STab w (.slice aP P.length cP) P) := hP
  have HC : Hid (∀ k, k < N.length → ∃ b o u, aN = some ⟨b, o, none⟩ ∧ w.cell? ⟨b, o + k, none⟩ = some u ∧ Ints w u (N.getD k [])) := hcN
  clear hA hK hE hP hcN
  go_enter Try.func29, Try.ntmps29
  go_wp2_with fail
  refine (strs_any 0 _ A _ HA.out (by omega) (by omega)).mono ?_
  rintro e w1 ⟨⟨r1, rfl, hr1⟩, rfl⟩
  obtain ⟨b1, b1'⟩ := hr1.bounds (by omega)
  have H1 : Hid (SumGe (0 + A.length * 16) r1) := hr1
  clear hr1
  go_wp2_with fail
  refine (addW_any r1 R.length 8 _ b1 (by omega) b1' (by omega) (by omega)).mono ?_
  rintro e w2 ⟨⟨r2, rfl, hr2⟩, rfl⟩
  have H2 : Hid (SumGe (0 + A.length * 16 + R.length * 8) r2) := H1.out.trans hr2.ge (by omega)
  obtain ⟨b2, b2'⟩ := H2.out.bounds (by omega)
  clear hr2 H1 b1 b1'
  go_wp2_with fail
  refine (addW_any r2 L.length 8 _ b2 (by omega) b2' (by omega) (by omega)).mono ?_
  rintro e w3 ⟨⟨r3, rfl, hr3⟩, rfl⟩
  have H3 : Hid (SumGe (0 + A.length * 16 + R.length * 8 + L.length * 8) r3) := H2.out.trans hr3.ge (by omega)
  obtain ⟨b3, b3'⟩ := H3.out.bounds (by omega)
  clear hr3 H2 b2 b2'
  go_wp2_with fail
  refine (nested_any r3 _ K _ HK.out b3 b3').mono ?_
  rintro e w4 ⟨⟨r4, rfl, hr4⟩, rfl⟩
  have H4 : Hid (SumGe (0 + A.length * 16 + R.length * 8 + L.length * 8 + (K.length * 24 + words K * 16)) r4) := H3.out.trans (hr4.mono (by omega)) (by omega)
  obtain ⟨b4, b4'⟩ := H4.out.bounds (by omega)
  clear hr4 H3 b3 b3'
  go_wp2_with fail
  refine (addW_any r4 N.length 24 _ b4 (by omega) b4' (by omega) (by omega)).mono ?_
  rintro e w5 ⟨⟨r5, rfl, hr5⟩, rfl⟩
  have H5 : Hid (SumGe (0 + A.length * 16 + R.length * 8 + L.length * 8 + (K.length * 24 + words K * 16) + N.length * 24) r5) := H4.out.trans hr5.ge (by omega)
  obtain ⟨b5, b5'⟩ := H5.out.bounds (by omega)
  clear hr5 H4 b4 b4'
  obtain ⟨Z, hZ⟩ : ∃ Z : Int, 0 + (A.length : Int) * 16 + R.length * 8 + L.length * 8 + (K.length * 24 + words K * 16) + N.length * 24 = Z := ⟨_, rfl⟩
  rw [hZ] at H5
  have HZ : Hid (0 + (A.length : Int) * 16 + R.length * 8 + L.length * 8 + (K.length * 24 + words K * 16) + N.length * 24 = Z) := hZ
  have hZ0 : 0 ≤ Z := by omega
  clear hZ
  go_wp2
  go_loop [15, 16] (fun z i => ∃ (k : Nat) (x : Int), k ≤ N.length ∧ i = .int .i64 k ∧ z = .int .i64 x ∧ 0 ≤ x ∧ x ≤ 1048577 ∧ Hid (SumGe (Z + words (N.take k) * 8) x)) (fun _ i => N.length - (intOf i).toNat)
  case atStart => exact ⟨0, r5, Nat.zero_le _, rfl, rfl, b5, b5', by show SumGe _ _; simpa [words] using H5.out⟩
  case round =>
    obtain ⟨k, x, hk, rfl, rfl, hx0, hx1, hx⟩ := hrel
    clear H5 b5 b5'
    have EXIT : Hid (SumGe (Z + words N * 8) x → ∀ (r8 : Int), SumGe (x + E.length * 16 + (P.length * 24 + words P * 16)) r8 → r8 ≤ 1048576 → Small A R L K N E P) := fun h r8 h8 hle => by
      have ht := h.trans (y := E.length * 16 + (P.length * 24 + words P * 16)) (s := r8) (h8.mono (by omega)) (by omega)
      have hz := HZ.out
      rcases ht with ht | ⟨ht, ht2⟩
      · omega
      · refine ⟨?_, ?_, ?_, ?_, ?_, ?_, ?_, ?_, ?_, ?_⟩ <;> omega
    by_cases hlt : k < N.length ∧ x ≤ 1048576
    · obtain ⟨hlt, hx2⟩ := hlt
      obtain ⟨b, o, u, rfl, hcell, au, cu, rfl, _, lu, _⟩ := HC.out k hlt
      have HW : Hid (words (N.take (k + 1)) = words (N.take k) + (N.getD k []).length) := words_take_succ N k hlt
      clear EXIT
      generalize N.getD k [] = row at hcell HW lu
      go_wp2_with fail
      refine (addW_any x row.length 8 _ hx0 (by omega) hx1 (by omega) (by omega)).mono ?_
      rintro e w6 ⟨⟨r6, rfl, hr6⟩, rfl⟩
      have HX : Hid (SumGe (Z + words (N.take (k + 1)) * 8) r6) := by
        show SumGe _ _
        rw [HW.out]
        exact (hx.out.trans hr6.ge (by omega)).mono (by omega)
      obtain ⟨hy0, hy1⟩ := HX.out.bounds (by omega)
      clear hr6
      go_wp2
      go_round
      case rel => exact ⟨k + 1, r6, by omega, by go_num, rfl, hy0, hy1, HX.out⟩
      case measure => simp [intOf]; omega
    · have HF : Hid (SumGe (Z + words N * 8) x) := by
        by_cases hlt2 : k < N.length
        · exact Or.inl (by omega)
        · have := hx.out
          rw [List.take_of_length_le (by omega)] at this
          exact this
      have hcond : k = N.length ∨ (k < N.length ∧ x = 1048577) := by omega
      have EX2 : Hid (∀ (r8 : Int), SumGe (x + E.length * 16 + (P.length * 24 + words P * 16)) r8 → r8 ≤ 1048576 → Small A R L K N E P) := EXIT.out HF.out
      clear HF EXIT hlt hx HC HZ
      rcases hcond with rfl | ⟨hlt, rfl⟩
      · go_wp2_with fail
        refine (strs_any x _ E _ HE.out hx0 hx1).mono ?_
        rintro e w7 ⟨⟨r7, rfl, hr7⟩, rfl⟩
        obtain ⟨b7, b7'⟩ := hr7.bounds (by omega)
        have H7 : Hid (SumGe (x + E.length * 16) r7) := hr7
        clear hr7
        go_wp2_with fail
        refine (nested_any r7 _ P _ HP.out b7 b7').mono ?_
        rintro e w8 ⟨⟨r8, rfl, hr8⟩, rfl⟩
        have H8 : Hid (r8 ≤ 1048576 → Small A R L K N E P) := fun h => EX2.out r8 (H7.out.trans (hr8.mono (by omega)) (by omega)) h
        clear hr8
        go_wp2
        go_ret
        exact ⟨⟨_, rfl, H8.out⟩, rfl⟩
      · go_wp2_with fail
        refine (strs_any 1048577 _ E _ HE.out hx0 hx1).mono ?_
        rintro e w7 ⟨⟨r7, rfl, hr7⟩, rfl⟩
        obtain ⟨b7, b7'⟩ := hr7.bounds (by omega)
        have H7 : Hid (SumGe (1048577 + E.length * 16) r7) := hr7
        clear hr7
        go_wp2_with fail
        refine (nested_any r7 _ P _ HP.out b7 b7').mono ?_
        rintro e w8 ⟨⟨r8, rfl, hr8⟩, rfl⟩
        have H8 : Hid (r8 ≤ 1048576 → Small A R L K N E P) := fun h => EX2.out r8 (H7.out.trans (hr8.mono (by omega)) (by omega)) h
        clear hr8
        go_wp2
        go_ret
        exact ⟨⟨_, rfl, H8.out⟩, rfl⟩

end Go.Proofs.Qxb6603051a
