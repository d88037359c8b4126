import Derived.Test.Qxb6600940aWalkC
namespace Go.Proofs.Qxb6600940a
open Go.RowKit

theorem wrap_add (a b : Int) : wrap64 (wrap64 a + b) = wrap64 (a + b) := by unfold wrap64; omega
theorem wrap_add' (a b : Int) : wrap64 (a + wrap64 b) = wrap64 (a + b) := by unfold wrap64; omega
theorem wrap_sub (a b : Int) : wrap64 (wrap64 a - b) = wrap64 (a - b) := by unfold wrap64; omega
theorem wrap_sub' (a b : Int) : wrap64 (a - wrap64 b) = wrap64 (a - b) := by unfold wrap64; omega

theorem sumTo_succ (T : List (List ByteArray)) (C X : List ByteArray) (D : List Int) (S : List ByteArray) (sc st : ByteArray) (k : Nat) :
    sumTo T C X D S sc st (k + 1) = sumTo T C X D S sc st k + if reach (T.getD k []) (C.getD k ⟨#[]⟩) (X.getD k ⟨#[]⟩) S sc st then D.getD k 0 else 0 := rfl

theorem empty_eq : ByteArray.empty = ⟨#[]⟩ := rfl

set_option maxHeartbeats 1000000 in
theorem model_any (vT vC vX vD vS : Value) (T : List (List ByteArray)) (C X : List ByteArray) (D : List Int) (S : List ByteArray) (sc st : ByteArray) (w : World) (hT : STab w vT T) (hC : Strs w vC C) (hX : Strs w vX X) (hD : Ints w vD D) (hS : Strs w vS S)
    (h1 : C.length = T.length) (h2 : X.length = T.length) (h3 : D.length = T.length) :
    Calls Try.prog 24 #[vT, vC, vX, vD, vS, .string sc, .string st] w fun e w' => e = .returned (.int .i64 (wrap64 (sumTo T C X D S sc st T.length))) ∧ Drew w w' := by
  obtain ⟨a, cap, rfl, hl, hc⟩ := hT
  obtain ⟨aC, cC, rfl, _, hlC, hcC⟩ := hC
  obtain ⟨aX, cX, rfl, _, hlX, hcX⟩ := hX
  obtain ⟨aD, cD, rfl, _, hlD, hcD⟩ := hD
  obtain ⟨aS, cS, hSe⟩ := hS.slice
  subst hSe
  have HS : Hid (Strs w (.slice aS S.length cS) S) := hS
  have H123 : Hid (C.length = T.length ∧ X.length = T.length ∧ D.length = T.length) := ⟨h1, h2, h3⟩
  clear hS h1 h2 h3
  obtain ⟨R, hR⟩ : ∃ R, wrap64 (sumTo T C X D S sc st T.length) = R := ⟨_, rfl⟩
  rw [hR]
  have HR : Hid (wrap64 (sumTo T C X D S sc st T.length) = R) := hR
  clear hR
  go_enter Try.func24, Try.ntmps24
  go_wp2
  go_loopw [15, 16] (fun t i wr => ∃ k : Nat, ∃ z : Int, k ≤ T.length ∧ i = .int .i64 k ∧ t = .int .i64 z ∧ Hid (z = wrap64 (sumTo T C X D S sc st k) ∧ Drew w wr)) (fun _ i _ => T.length - (intOf i).toNat)
  case atStart => exact ⟨0, _, Nat.zero_le _, rfl, rfl, by simp [sumTo, wrap64], Drew.refl _⟩
  case round =>
    obtain ⟨k, z, hk, rfl, rfl, hz⟩ := hrel
    have hz0 := hz.out
    clear hz
    obtain ⟨hz, hdr⟩ := hz0
    have HDR : Hid (Drew w wr) := hdr
    have HZ : Hid (z = wrap64 (sumTo T C X D S sc st k)) := hz
    clear hz
    by_cases hlt : k < T.length
    · obtain ⟨b, o, u, rfl, hcell, hu⟩ := hc k hlt
      obtain ⟨_, bC, oC, rfl, hcellC⟩ := hcC k (by rw [H123.out.1]; exact hlt)
      obtain ⟨_, bX, oX, rfl, hcellX⟩ := hcX k (by rw [H123.out.2.1]; exact hlt)
      obtain ⟨bD, oD, rfl, hcellD⟩ := hcD k (by rw [H123.out.2.2]; exact hlt)
      have hkI : (k : Int) < (T.length : Int) := by omega
      have hkC : (k : Int) < (C.length : Int) := by rw [H123.out.1]; exact hkI
      have hkX : (k : Int) < (X.length : Int) := by rw [H123.out.2.1]; exact hkI
      have hkD : (k : Int) < (D.length : Int) := by rw [H123.out.2.2]; exact hkI
      have HSUC : Hid (sumTo T C X D S sc st (k + 1) = sumTo T C X D S sc st k + if reach (T.getD k []) (C.getD k ⟨#[]⟩) (X.getD k ⟨#[]⟩) S sc st then D.getD k 0 else 0) := rfl
      rw [empty_eq] at hcellC hcellX
      have g0 := cell_later (hdr.below w.heap.size) hcell
      have gC := cell_later (hdr.below w.heap.size) hcellC
      have gX := cell_later (hdr.below w.heap.size) hcellX
      have gD := cell_later (hdr.below w.heap.size) hcellD
      have hu := hu.below (hdr.below w.heap.size)
      have hSr := HS.out.below (hdr.below w.heap.size)
      have HSr : Hid (Strs wr (.slice aS S.length cS) S) := hSr
      clear hcell hcellC hcellX hcellD hSr hdr
      generalize T.getD k [] = row at *
      generalize C.getD k ⟨#[]⟩ = bc at *
      generalize X.getD k ⟨#[]⟩ = bt at *
      generalize D.getD k 0 = d at *
      obtain ⟨au, cu, hue⟩ := hu.slice
      subst hue
      have HU : Hid (Strs wr (.slice au row.length cu) row) := hu
      clear hc hcC hcX hcD hu
      have HCALL : Hid (∀ n, Calls Try.prog 34 #[.slice au row.length cu, .string bc, .string bt, .slice aS S.length cS, .string sc, .string st] (wr.drewN n) fun e w' => e = .returned (.bool (reach row bc bt S sc st)) ∧ w' = wr.drewN n) :=
        fun n => reach_any _ _ row S bc bt sc st _ (HU.out.below (below_drewN' _ _ _)) (HSr.out.below (below_drewN' _ _ _))
      cases hr : reach row bc bt S sc st with
      | true =>
        rw [hr] at HCALL
        have HRR : Hid (reach row bc bt S sc st = true) := hr
        clear hr
        go_wp2
        go_quiet ((go_at_call 34; exact Calls.quiet_of_same (HCALL.out _)))
        go_wp2
        go_roundw
        case rel => exact ⟨k + 1, _, by omega, by go_num, rfl, by rw [HSUC.out, HRR.out, HZ.out]; simp only [if_true]; exact wrap_add _ _, HDR.out.trans ⟨_, rfl⟩⟩
        case measure => simp [intOf]; omega
      | false =>
        rw [hr] at HCALL
        have HRR : Hid (reach row bc bt S sc st = false) := hr
        clear hr
        go_wp2
        go_quiet ((go_at_call 34; exact Calls.quiet_of_same (HCALL.out _)))
        go_wp2
        go_roundw
        case rel => exact ⟨k + 1, _, by omega, by go_num, rfl, by rw [HSUC.out, HRR.out, HZ.out]; simp, HDR.out.trans ⟨_, rfl⟩⟩
        case measure => simp [intOf]; omega
    · have hke : k = T.length := by omega
      subst hke
      go_wp2
      go_ret
      exact ⟨by rw [← HR.out, ← HZ.out]; rfl, HDR.out⟩

end Go.Proofs.Qxb6600940a
