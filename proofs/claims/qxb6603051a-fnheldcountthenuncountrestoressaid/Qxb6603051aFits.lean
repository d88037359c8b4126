/-
  DERIVED. HeldFits.
-/
import Derived.Test.Qxb6603051aSets
import Derived.Deep.DeepCutAuto
namespace Go.Proofs.Qxb6603051a
open Go.RowKit Go.Maps

/-- What is read at entry k. -/
def InAt (w : World) (aA aR aL aK aN : Option Addr) (A : List ByteArray) (R L : List Int) (K : List (List ByteArray)) (N : List (List Int)) (k : Nat) : Prop :=
  (∃ b o, aA = some ⟨b, o, none⟩ ∧ w.cell? ⟨b, o + k, none⟩ = some (.string (A.getD k ByteArray.empty)) ∧ (A.getD k ByteArray.empty).size ≤ 9223372036854775807) ∧
  (∃ b o, aR = some ⟨b, o, none⟩ ∧ w.cell? ⟨b, o + k, none⟩ = some (.int .i64 (R.getD k 0))) ∧
  (∃ b o, aL = some ⟨b, o, none⟩ ∧ w.cell? ⟨b, o + k, none⟩ = some (.int .i64 (L.getD k 0))) ∧
  (∃ b o u, aK = some ⟨b, o, none⟩ ∧ w.cell? ⟨b, o + k, none⟩ = some u ∧ Strs w u (K.getD k [])) ∧
  (∃ b o u, aN = some ⟨b, o, none⟩ ∧ w.cell? ⟨b, o + k, none⟩ = some u ∧ Ints w u (N.getD k []))

theorem in_at {w : World} {vA vR vL vK vN : Value} {A : List ByteArray} {R L : List Int} {K : List (List ByteArray)} {N : List (List Int)} (hA : Strs w vA A) (hR : Ints w vR R) (hL : Ints w vL L) (hK : STab w vK K) (hN : ITab w vN N)
    (e1 : R.length = A.length) (e2 : L.length = A.length) (e3 : K.length = A.length) (e4 : N.length = A.length) :
    ∃ aA aR aL aK aN c1 c2 c3 c4 c5, vA = .slice aA A.length c1 ∧ vR = .slice aR A.length c2 ∧ vL = .slice aL A.length c3 ∧ vK = .slice aK A.length c4 ∧ vN = .slice aN A.length c5 ∧ ∀ k, k < A.length → InAt w aA aR aL aK aN A R L K N k := by
  obtain ⟨aA, c1, rfl, _, _, hA⟩ := hA
  obtain ⟨aR, c2, rfl, _, _, hR⟩ := hR
  obtain ⟨aL, c3, rfl, _, _, hL⟩ := hL
  obtain ⟨aK, c4, rfl, _, hK⟩ := hK
  obtain ⟨aN, c5, rfl, _, hN⟩ := hN
  refine ⟨aA, aR, aL, aK, aN, c1, c2, c3, c4, c5, rfl, by rw [e1], by rw [e2], by rw [e3], by rw [e4], fun k hk => ⟨?_, hR k (by omega), hL k (by omega), hK k (by omega), hN k (by omega)⟩⟩
  obtain ⟨hs, b, o, h1, h2⟩ := hA k hk
  exact ⟨b, o, h1, h2, hs⟩

set_option maxRecDepth 100000 in
set_option maxHeartbeats 2000000 in
theorem fits_any (vA vR vL vK vN vE vP : Value) (A : List ByteArray) (R L : List Int) (K : List (List ByteArray)) (N : List (List Int)) (E : List ByteArray) (P : List (List ByteArray)) (w : World)
    (hA : Strs w vA A) (hR : Ints w vR R) (hL : Ints w vL L) (hK : STab w vK K) (hN : ITab w vN N) (hE : Strs w vE E) (hP : STab w vP P) (hsm : Small A R L K N E P) :
    Calls Try.prog 30 #[vA, vR, vL, vK, vN, vE, vP] w fun e w' => RetB (fun r => r = true → Fits A R L K N E P) e ∧ Below w.heap.size w w' := by
  have HSM : Hid (Small A R L K N E P) := hsm
  clear hsm
  obtain ⟨aE, cE, rfl⟩ := hE.slice
  obtain ⟨aP, cP, rfl⟩ := hP.slice
  clear hE hP
  by_cases q1 : ¬ R.length = A.length
  · obtain ⟨aA, cA, rfl⟩ := hA.slice
    obtain ⟨aR, cR, rfl⟩ := hR.slice
    have q1' : ((R.length : Int) != (A.length : Int)) = true := by rw [bne_iff_ne]; omega
    clear hA hR hL hK hN
    go_enter Try.func30, Try.ntmps30
    go_wp2
    go_ret
    exact ⟨⟨_, rfl, fun h => by cases h⟩, Below.refl _ _⟩
  by_cases q2 : ¬ L.length = A.length
  · obtain ⟨aA, cA, rfl⟩ := hA.slice
    obtain ⟨aR, cR, rfl⟩ := hR.slice
    obtain ⟨aL, cL, rfl⟩ := hL.slice
    have q1' : ((R.length : Int) != (A.length : Int)) = false := by rw [Classical.not_not.1 q1]; simp
    have q2' : ((L.length : Int) != (A.length : Int)) = true := by rw [bne_iff_ne]; omega
    clear hA hR hL hK hN
    go_enter Try.func30, Try.ntmps30
    go_wp2
    go_ret
    exact ⟨⟨_, rfl, fun h => by cases h⟩, Below.refl _ _⟩
  by_cases q3 : ¬ K.length = A.length
  · obtain ⟨aA, cA, rfl⟩ := hA.slice
    obtain ⟨aR, cR, rfl⟩ := hR.slice
    obtain ⟨aL, cL, rfl⟩ := hL.slice
    obtain ⟨aK, cK, rfl⟩ := hK.slice
    have q1' : ((R.length : Int) != (A.length : Int)) = false := by rw [Classical.not_not.1 q1]; simp
    have q2' : ((L.length : Int) != (A.length : Int)) = false := by rw [Classical.not_not.1 q2]; simp
    have q3' : ((K.length : Int) != (A.length : Int)) = true := by rw [bne_iff_ne]; omega
    clear hA hR hL hK hN
    go_enter Try.func30, Try.ntmps30
    go_wp2
    go_ret
    exact ⟨⟨_, rfl, fun h => by cases h⟩, Below.refl _ _⟩
  by_cases q4 : ¬ N.length = A.length
  · obtain ⟨aA, cA, rfl⟩ := hA.slice
    obtain ⟨aR, cR, rfl⟩ := hR.slice
    obtain ⟨aL, cL, rfl⟩ := hL.slice
    obtain ⟨aK, cK, rfl⟩ := hK.slice
    obtain ⟨aN, cN, rfl⟩ := hN.slice
    have q1' : ((R.length : Int) != (A.length : Int)) = false := by rw [Classical.not_not.1 q1]; simp
    have q2' : ((L.length : Int) != (A.length : Int)) = false := by rw [Classical.not_not.1 q2]; simp
    have q3' : ((K.length : Int) != (A.length : Int)) = false := by rw [Classical.not_not.1 q3]; simp
    have q4' : ((N.length : Int) != (A.length : Int)) = true := by rw [bne_iff_ne]; omega
    clear hA hR hL hK hN
    go_enter Try.func30, Try.ntmps30
    go_wp2
    go_ret
    exact ⟨⟨_, rfl, fun h => by cases h⟩, Below.refl _ _⟩
  have q1 := Classical.not_not.1 q1
  have q2 := Classical.not_not.1 q2
  have q3 := Classical.not_not.1 q3
  have q4 := Classical.not_not.1 q4
  obtain ⟨aA, aR, aL, aK, aN, c1, c2, c3, c4, c5, rfl, rfl, rfl, rfl, rfl, hin⟩ := in_at hA hR hL hK hN q1 q2 q3 q4
  have HQ : Hid (R.length = A.length ∧ L.length = A.length ∧ K.length = A.length ∧ N.length = A.length) := ⟨q1, q2, q3, q4⟩
  have HIN : Hid (∀ k, k < A.length → InAt w aA aR aL aK aN A R L K N k) := hin
  clear hA hR hL hK hN q1 q2 q3 q4 hin
  by_cases q5 : ¬ E.length = P.length
  · have q5' : ((E.length : Int) != (P.length : Int)) = true := by rw [bne_iff_ne]; omega
    go_enter Try.func30, Try.ntmps30
    go_wp2
    go_ret
    exact ⟨⟨_, rfl, fun h => by cases h⟩, Below.refl _ _⟩
  have q5' : ((E.length : Int) != (P.length : Int)) = false := by rw [Classical.not_not.1 q5]; simp
  have HQ5 : Hid (E.length = P.length) := Classical.not_not.1 q5
  clear q5
  have hmk : ∀ (n : Int) (w : World), (Instr.makeMap 70 (some (.int .i64 n))).run Try.prog w = .ok (.map (some w.heap.size)) (w.alloc (.map #[] 0)) := run_make_hint Try.underlying70
  have hAl : A.length ≤ 65536 := HSM.out.1
  have HS0 : Hid (SetMap (w.alloc (.map #[] 0)) w.heap.size []) := setMap_made w
  go_enter Try.func30, Try.ntmps30
  go_wp2
  go_loopw [17] (fun i wr => ∃ k : Nat, k ≤ A.length ∧ i = .int .i64 k ∧ Below w.heap.size w wr ∧ SetMap wr w.heap.size (A.take k) ∧ (A.take k).Nodup ∧ ∀ j, j < k → Row1 R L K N j) (fun i _ => A.length - (intOf i).toNat)
  case atStart => exact ⟨0, Nat.zero_le _, rfl, (Below.refl _ _).alloc (Nat.le_refl _) _, by rw [List.take_zero]; exact HS0.out, by rw [List.take_zero]; exact List.nodup_nil, fun _ h => absurd h (Nat.not_lt_zero _)⟩
  case round =>
    obtain ⟨k, hk, rfl, hb, hs, hnd, hrows⟩ := hrel
    have HB : Hid (Below w.heap.size w wr) := hb
    have HS : Hid (SetMap wr w.heap.size (A.take k)) := hs
    have HND : Hid ((A.take k).Nodup) := hnd
    have HRW : Hid (∀ j, j < k → Row1 R L K N j) := hrows
    clear hb hs hnd hrows HS0 q5'
    by_cases hlt : k < A.length
    · obtain ⟨⟨bA, oA, rfl, cA, hsz⟩, ⟨bR, oR, rfl, cR⟩, ⟨bL, oL, rfl, cL⟩, ⟨bK, oK, uK, rfl, cK, hK⟩, ⟨bN, oN, uN, rfl, cN, hN⟩⟩ := HIN.out k hlt
      obtain ⟨aKr, cKr, rfl⟩ := hK.slice
      obtain ⟨aNr, cNr, rfl⟩ := hN.slice
      have HCELL : Hid (∀ wx, Below w.heap.size w wx → wx.cell? ⟨bA, oA + k, none⟩ = some (.string (A.getD k ByteArray.empty)) ∧ wx.cell? ⟨bR, oR + k, none⟩ = some (.int .i64 (R.getD k 0)) ∧ wx.cell? ⟨bL, oL + k, none⟩ = some (.int .i64 (L.getD k 0)) ∧ wx.cell? ⟨bK, oK + k, none⟩ = some (.slice aKr (K.getD k []).length cKr) ∧ wx.cell? ⟨bN, oN + k, none⟩ = some (.slice aNr (N.getD k []).length cNr)) :=
        fun wx hbx => ⟨cell_later hbx cA, cell_later hbx cR, cell_later hbx cL, cell_later hbx cK, cell_later hbx cN⟩
      have HROW : Hid (∀ wx, Below w.heap.size w wx → Strs wx (.slice aKr (K.getD k []).length cKr) (K.getD k []) ∧ Ints wx (.slice aNr (N.getD k []).length cNr) (N.getD k [])) := fun wx hbx => ⟨hK.below hbx, hN.below hbx⟩
      obtain ⟨d1, d2, d3, d4, d5⟩ := HCELL.out wr HB.out
      have hlook := HS.out.look (A.getD k ByteArray.empty) hsz
      have HTK : Hid (A.take (k + 1) = A.take k ++ [A.getD k ByteArray.empty]) := take_snoc A _ k hlt
      obtain ⟨w1, hput, hs1, ht1⟩ := HS.out.put (A.getD k ByteArray.empty) hsz (by rw [List.length_take]; omega)
      have HB1 : Hid (Below w.heap.size w w1) := HB.out.trans (turned_below ht1 (Nat.le_refl _))
      obtain ⟨f1, f2, f3, f4, f5⟩ := HCELL.out w1 HB1.out
      have hkl : (K.getD k []).length ≤ 65536 := by have h1 := row_le_words K k (by rw [HQ.out.2.2.1]; exact hlt); have h2 := HSM.out.2.2.2.2.1; omega
      have HRDEF : Hid (∀ (x : Prop), (Row1 R L K N k → x) → ((N.getD k []).length = (K.getD k []).length → ¬ (R.getD k 0 = 0 ∧ L.getD k 0 = 0 ∧ (K.getD k []).length = 0) → (K.getD k []).Nodup → (∀ j, j < (K.getD k []).length → (N.getD k []).getD j 0 ≠ 0) → x)) := fun x h a b c d => h ⟨a, b, c, d⟩
      have HS1 : Hid (SetMap w1 w.heap.size (A.take k ++ [A.getD k ByteArray.empty])) := hs1
      have HKl : Hid (∀ wx, Below w.heap.size w wx → ∀ j, j < (K.getD k []).length → ((K.getD k []).getD j ByteArray.empty).size ≤ 9223372036854775807 ∧ ∃ b o, aKr = some ⟨b, o, none⟩ ∧ wx.cell? ⟨b, o + j, none⟩ = some (.string ((K.getD k []).getD j ByteArray.empty))) := fun wx hbx j hj => by
        obtain ⟨a', c', e', _, _, hc'⟩ := (HROW.out wx hbx).1
        injection e' with e1
        obtain ⟨h1, b, o, h2, h3⟩ := hc' j hj
        exact ⟨h1, b, o, e1.trans h2, h3⟩
      have HNl : Hid (∀ wx, Below w.heap.size w wx → ∀ j, j < (N.getD k []).length → ∃ b o, aNr = some ⟨b, o, none⟩ ∧ wx.cell? ⟨b, o + j, none⟩ = some (.int .i64 ((N.getD k []).getD j 0))) := fun wx hbx j hj => by
        obtain ⟨a', c', e', _, _, hc'⟩ := (HROW.out wx hbx).2
        injection e' with e1
        obtain ⟨b, o, h2, h3⟩ := hc' j hj
        exact ⟨b, o, e1.trans h2, h3⟩
      clear cA cR cL cK cN hK hN hs1 ht1 HROW
      generalize A.getD k ByteArray.empty = x at *
      generalize R.getD k 0 = rk at *
      generalize L.getD k 0 = lk at *
      generalize K.getD k [] = krow at *
      generalize N.getD k [] = nrow at *
      by_cases hin : inB x (A.take k) = true
      · rw [hin] at hlook
        go_wp2
        go_ret
        exact ⟨⟨_, rfl, fun h => by cases h⟩, HB.out⟩
      · have hin' : inB x (A.take k) = false := by simpa using hin
        rw [hin'] at hlook
        have HND1 : Hid ((A.take (k + 1)).Nodup) := by show List.Nodup _; rw [HTK.out]; exact nodup_snoc HND.out hin'
        clear hin hin'
        by_cases q6 : ¬ krow.length = nrow.length
        · have q6' : ((krow.length : Int) != (nrow.length : Int)) = true := by rw [bne_iff_ne]; omega
          go_wp2
          go_quiet (fail)
          go_wp2
          go_ret
          exact ⟨⟨_, rfl, fun h => by cases h⟩, HB1.out.trans ((below_drewN' _ _ _).mono (Nat.le_refl _))⟩
        have q6 := Classical.not_not.1 q6
        have q6' : ((krow.length : Int) != (nrow.length : Int)) = false := by rw [q6]; simp
        have HQ6 : Hid (nrow.length = krow.length) := q6.symm
        clear q6
        go_wp2
        go_quiet (fail)
        have HB2 : Hid (Below w.heap.size w (w1.drewN nq)) := HB1.out.trans ((below_drewN' _ _ _).mono (Nat.le_refl _))
        have HS2 : Hid (SetMap (w1.drewN nq) w.heap.size (A.take (k + 1))) := by show SetMap _ _ _; rw [HTK.out]; exact HS1.out.of_block ((below_drewN' w1 nq w1.heap.size).block _ HS1.out.lt)
        generalize w1.drewN nq = w2 at *
        clear d1 d2 d3 d4 d5 f1 f2 f3 f4 f5 hlook hput HS1 HB1 HND HS
        obtain ⟨-, f2, f3, f4, f5⟩ := HCELL.out w2 HB2.out
        go_upto_region 13 with fail
        obtain ⟨zb, hzb⟩ : ∃ zb : Bool, decide (rk = 0 ∧ lk = 0 ∧ krow.length = 0) = zb := ⟨_, rfl⟩
        have HZB : Hid (decide (rk = 0 ∧ lk = 0 ∧ krow.length = 0) = zb) := hzb
        clear hzb
        go_cut [99] (fun v wx => v = .bool zb ∧ wx = w2)
        case first =>
          by_cases z1 : rk = 0
          · subst z1
            by_cases z2 : lk = 0
            · subst z2
              by_cases z3 : krow.length = 0
              · have hz : zb = true := by rw [← HZB.out]; simp [z3]
                subst hz
                go_wp2
                go_meet
                case rel => exact ⟨by simp, rfl⟩
              · have hz : zb = false := by rw [← HZB.out]; simp [z3]
                subst hz
                have z3' : ((krow.length : Int) == 0) = false := by rw [beq_eq_false_iff_ne]; omega
                clear z3
                go_wp2
                go_meet
                case rel => exact ⟨rfl, rfl⟩
            · have hz : zb = false := by rw [← HZB.out]; simp [z2]
              subst hz
              have z2' : (lk == 0) = false := by rw [beq_eq_false_iff_ne]; exact z2
              clear z2
              go_wp2
              go_meet
              case rel => exact ⟨rfl, rfl⟩
          · have hz : zb = false := by rw [← HZB.out]; simp [z1]
            subst hz
            have z1' : (rk == 0) = false := by rw [beq_eq_false_iff_ne]; exact z1
            clear z1
            go_wp2
            go_meet
            case rel => exact ⟨rfl, rfl⟩
        case rest =>
          obtain ⟨rfl, rfl⟩ := hcut
          cases zb with
          | true =>
            go_wp2
            go_ret
            exact ⟨⟨_, rfl, fun h => by cases h⟩, HB2.out⟩
          | false =>
            have HZ : Hid (¬ (rk = 0 ∧ lk = 0 ∧ krow.length = 0)) := of_decide_eq_false HZB.out
            have HK0 : Hid (SetMap (wc.alloc (.map #[] 0)) wc.heap.size []) := setMap_made wc
            have HBW : Hid (Below w.heap.size w wc) := HB2.out
            generalize wc = w2 at *
            have hws : w.heap.size < w2.heap.size := HS2.out.lt
            have HBA : Hid (Below w2.heap.size w2 (w2.alloc (.map #[] 0))) := (Below.refl _ _).alloc (Nat.le_refl _) _
            clear HZB HB2
            go_wp2
            go_loopw [19] (fun j wx => ∃ p : Nat, p ≤ krow.length ∧ j = .int .i64 p ∧ Below w2.heap.size w2 wx ∧ SetMap wx w2.heap.size (krow.take p) ∧ (krow.take p).Nodup ∧ ∀ j, j < p → nrow.getD j 0 ≠ 0) (fun j _ => krow.length - (intOf j).toNat)
            case atStart => exact ⟨0, Nat.zero_le _, rfl, HBA.out, by rw [List.take_zero]; exact HK0.out, by rw [List.take_zero]; exact List.nodup_nil, fun _ h => absurd h (Nat.not_lt_zero _)⟩
            case round =>
              obtain ⟨p, hp, rfl, hb3, hs3, hnd3, hnz3⟩ := hrel
              have HB3 : Hid (Below w2.heap.size w2 wr) := hb3
              have HS3 : Hid (SetMap wr w2.heap.size (krow.take p)) := hs3
              have HND3 : Hid ((krow.take p).Nodup) := hnd3
              have HNZ3 : Hid (∀ j, j < p → nrow.getD j 0 ≠ 0) := hnz3
              clear hb3 hs3 hnd3 hnz3 HK0 HBA f2 f3 f4 f5
              have HBR : Hid (Below w.heap.size w wr) := HBW.out.trans (HB3.out.mono (Nat.le_of_lt hws))
              obtain ⟨-, -, -, f4, f5⟩ := HCELL.out wr HBR.out
              by_cases hlt3 : p < krow.length
              · obtain ⟨hts, b, o, rfl, ct⟩ := HKl.out wr HBR.out p hlt3
                obtain ⟨b', o', rfl, cn⟩ := HNl.out wr HBR.out p (by rw [HQ6.out]; exact hlt3)
                have hlook := HS3.out.look (krow.getD p ByteArray.empty) hts
                obtain ⟨w4, hput, hs4, ht4⟩ := HS3.out.put (krow.getD p ByteArray.empty) hts (by rw [List.length_take]; omega)
                have HB4 : Hid (Below w2.heap.size w2 w4) := HB3.out.trans (turned_below ht4 (Nat.le_refl _))
                have HBR4 : Hid (Below w.heap.size w w4) := HBW.out.trans (HB4.out.mono (Nat.le_of_lt hws))
                have HS4 : Hid (SetMap w4 w2.heap.size (krow.take (p + 1))) := by show SetMap _ _ _; rw [take_snoc krow ByteArray.empty p hlt3]; exact hs4
                have HTK3 : Hid (krow.take (p + 1) = krow.take p ++ [krow.getD p ByteArray.empty]) := take_snoc krow _ p hlt3
                have hpn : (p : Int) < (nrow.length : Int) := by rw [HQ6.out]; omega
                clear hs4 ht4
                generalize krow.getD p ByteArray.empty = y at *
                by_cases hin3 : inB y (krow.take p) = true
                · rw [hin3] at hlook
                  clear hput
                  go_wp2
                  go_ret
                  exact ⟨⟨_, rfl, fun h => by cases h⟩, HBR.out⟩
                · have hin3' : inB y (krow.take p) = false := by simpa using hin3
                  rw [hin3'] at hlook
                  have HND4 : Hid ((krow.take (p + 1)).Nodup) := by show List.Nodup _; rw [HTK3.out]; exact nodup_snoc HND3.out hin3'
                  clear hin3 hin3'
                  by_cases hn0 : nrow.getD p 0 = 0
                  · rw [hn0] at cn
                    clear hput hn0
                    go_wp2
                    go_ret
                    exact ⟨⟨_, rfl, fun h => by cases h⟩, HBR.out⟩
                  · have hn0' : (nrow.getD p 0 == 0) = false := by rw [beq_eq_false_iff_ne]; exact hn0
                    have HNZ4 : Hid (∀ j, j < p + 1 → nrow.getD j 0 ≠ 0) := fun j hj => by
                      by_cases e : j = p
                      · rw [e]; exact hn0
                      · exact HNZ3.out j (by omega)
                    clear hn0
                    generalize nrow.getD p 0 = nv at cn hn0'
                    go_wp2
                    go_roundw
                    case rel => exact ⟨p + 1, by omega, by go_num, HB4.out, HS4.out, HND4.out, HNZ4.out⟩
                    case measure => simp [intOf]; omega
              · have hpe : p = krow.length := by omega
                have HR1 : Hid (Row1 R L K N k) := HRDEF.out _ id HQ6.out HZ.out (by have := HND3.out; rw [hpe, List.take_length] at this; exact this) (fun j hj => HNZ3.out j (by omega))
                have HS5 : Hid (SetMap wr w.heap.size (A.take (k + 1))) := HS2.out.of_block (HB3.out.block _ hws)
                clear hpe
                go_wp2
                go_roundw
                case rel => exact ⟨k + 1, by omega, by go_num, HBR.out, HS5.out, HND1.out, fun j hj => by
                  by_cases e : j = k
                  · rw [e]; exact HR1.out
                  · exact HRW.out j (by omega)⟩
                case measure => simp [intOf]; omega
    · have hke : k = A.length := by omega
      have HF : Hid (Fits A R L K N E P) := ⟨HQ.out.1, HQ.out.2.1, HQ.out.2.2.1, HQ.out.2.2.2, HQ5.out, by have := HND.out; rw [hke, List.take_length] at this; exact this, fun i hi => HRW.out i (by omega)⟩
      clear hke
      go_wp2
      go_ret
      exact ⟨⟨_, rfl, fun _ => HF.out⟩, HB.out⟩
end Go.Proofs.Qxb6603051a
