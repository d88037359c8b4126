/-
  DERIVED. BuildHeld.
-/
import Derived.Test.Qxb6603051aHeld4
import Derived.Deep.DeepCutAuto
import Derived.Deep.RegionHeld3
namespace Go.Proofs.Qxb6603051a
open Go.RowKit Go.Maps

/-- What BuildHeld leaves. -/
def HeldIs (w : World) (A : List ByteArray) (R L : List Int) (K : List (List ByteArray)) (N : List (List Int)) (e : Ending) (w' : World) : Prop :=
  ∃ hb fm, e = .returned (.map (some hb)) ∧ w.heap.size ≤ hb ∧ HS w' hb (A.length + words K) (absOf A R L K N A.length) fm ∧ Below w.heap.size w w'

theorem hs_start (w : World) (n : Nat) (A : List ByteArray) (R L : List Int) (K : List (List ByteArray)) (N : List (List Int)) : HS (w.alloc (.map #[] 0)) w.heap.size n (absOf A R L K N 0) (fun _ => none) :=
  ⟨⟨0, [], Nat.zero_le _, ⟨List.nodup_nil, ⟨fun _ => none, mapIs_made w _ _ (fun _ => rfl), fun x => by simp [inB]⟩, fun x _ => ⟨rfl, rfl, rfl⟩, fun x hx => by simp [inB] at hx⟩⟩, fun i => Or.inl ⟨rfl, fun _ => rfl⟩, (fun i b e => by cases e), (fun i j b e => by cases e)⟩

theorem HS.fresh {w : World} {hb n n' : Nat} {s : Abs} {fm : ByteArray → Option Nat} (h : HS w hb n s fm) (x : ByteArray) {mb : Option Nat} {g : ByteArray → Int} (hF : FV w mb n' g) (hn : n ≤ n') (hm : ∀ b, mb = some b → hb < b ∧ ∀ i, fm i ≠ some b) : HH w hb n' s fm x mb g := by
  obtain ⟨m, dom, h1, h2⟩ := h.tab
  exact ⟨⟨m, dom, by omega, h2⟩, fun i _ => (h.fol i).mono hn, hF, h.up, h.inj, fun b e => (hm b e).1, fun i b _ e e' => (hm b e').2 i e⟩

/-- The followers of one entry, being laid. -/
theorem intMap_step {w : World} {b j : Nat} {ks : List ByteArray} {ns : List Int} (hk : ks.Nodup) (hj : j < ks.length) (h : IntMap w b j (ks.take j) (rowF ks ns j)) (hs : (ks.getD j ByteArray.empty).size ≤ 9223372036854775807) (hl : ks.length ≤ 1048576) :
    ∃ w', (Instr.mapUpdate 23 (.map (some b)) (.string (ks.getD j ByteArray.empty)) (.int .i64 (ns.getD j 0))).run Try.prog w = .ok () w' ∧ IntMap w' b (j + 1) (ks.take (j + 1)) (rowF ks ns (j + 1)) ∧ w.mapTurned w' b := by
  obtain ⟨w', h1, h2, h3⟩ := h.put (ks.getD j ByteArray.empty) (ns.getD j 0) hs (by omega)
  have e : insB (ks.take j) (ks.getD j ByteArray.empty) = ks.take (j + 1) := by
    rw [take_snoc ks ByteArray.empty j hj]
    unfold insB
    rw [if_neg]
    intro hin
    have hin' := inB_iff.1 hin
    obtain ⟨i, hi, e⟩ := in_getD hin'
    have hi' : i < j ∧ i < ks.length := by rw [List.length_take] at hi; omega
    have e2 : (ks.take j).getD i ByteArray.empty = ks.getD i ByteArray.empty := by
      rw [List.getD_eq_getElem?_getD, List.getElem?_eq_getElem hi, List.getD_eq_getElem?_getD, List.getElem?_eq_getElem hi'.2]
      simp
    rw [e2] at e
    exact getD_ne hk hi'.2 hj (by omega) e
  rw [e] at h2
  exact ⟨w', h1, h2, h3⟩

set_option maxRecDepth 100000 in
set_option maxHeartbeats 4000000 in
theorem buildHeld_any (vA vR vL vK vN : Value) (A : List ByteArray) (R L : List Int) (K : List (List ByteArray)) (N : List (List Int)) (E : List ByteArray) (P : List (List ByteArray)) (w : World)
    (hA : Strs w vA A) (hR : Ints w vR R) (hL : Ints w vL L) (hK : STab w vK K) (hN : ITab w vN N) (hsm : Small A R L K N E P) (hf : Fits A R L K N E P) :
    Calls Try.prog 32 #[vA, vR, vL, vK, vN] w fun e w' => HeldIs w A R L K N e w' := by
  obtain ⟨aA, aR, aL, aK, aN, c1, c2, c3, c4, c5, rfl, rfl, rfl, rfl, rfl, hin⟩ := in_at hA hR hL hK hN hf.1 hf.2.1 hf.2.2.1 hf.2.2.2.1
  have HSM : Hid (Small A R L K N E P) := hsm
  have HF : Hid (Fits A R L K N E P) := hf
  have HIN : Hid (∀ k, k < A.length → InAt w aA aR aL aK aN A R L K N k) := hin
  clear hA hR hL hK hN hsm hf hin
  have hAl : A.length ≤ 65536 := HSM.out.1
  have hmk58 : ∀ (n : Int) (w : World), (Instr.makeMap 58 (some (.int .i64 n))).run Try.prog w = .ok (.map (some w.heap.size)) (w.alloc (.map #[] 0)) := run_make_hint Try.underlying58
  have hmk23 : ∀ (n : Int) (w : World), (Instr.makeMap 23 (some (.int .i64 n))).run Try.prog w = .ok (.map (some w.heap.size)) (w.alloc (.map #[] 0)) := run_make_hint Try.underlying23
  have HS0 : Hid (HS (w.alloc (.map #[] 0)) w.heap.size 0 (absOf A R L K N 0) (fun _ => none)) := hs_start w 0 A R L K N
  go_enter Try.func32, Try.ntmps32
  go_wp2
  go_loopw [12] (fun i wr => ∃ (k : Nat) (fm : ByteArray → Option Nat), k ≤ A.length ∧ i = .int .i64 k ∧ HS wr w.heap.size (k + words (K.take k)) (absOf A R L K N k) fm ∧ Below w.heap.size w wr ∧ ∀ x, x ∉ A.take k → fm x = none) (fun i _ => A.length - (intOf i).toNat)
  case atStart => exact ⟨0, fun _ => none, Nat.zero_le _, rfl, HS0.out, (Below.refl _ _).alloc (Nat.le_refl _) _, fun _ _ => rfl⟩
  case round =>
    obtain ⟨k, fm, hk, rfl, hS, hB, hnone⟩ := hrel
    have HS1 : Hid (HS wr w.heap.size (k + words (K.take k)) (absOf A R L K N k) fm) := hS
    have HB : Hid (Below w.heap.size w wr) := hB
    have HNO : Hid (∀ x, x ∉ A.take k → fm x = none) := hnone
    clear hS hB hnone HS0
    by_cases hlt : k < A.length
    · obtain ⟨⟨bA, oA, rfl, cA, hsz⟩, ⟨bR, oR, rfl, cR⟩, ⟨bL, oL, rfl, cL⟩, ⟨bK, oK, uK, rfl, cK, hK⟩, ⟨bN, oN, uN, rfl, cN, hN⟩⟩ := HIN.out k hlt
      obtain ⟨aKr, cKr, rfl⟩ := hK.slice
      obtain ⟨aNr, cNr, rfl⟩ := hN.slice
      have HROW1 : Hid (Row1 R L K N k) := HF.out.2.2.2.2.2.2 k hlt
      have HCELL : Hid (∀ wx, Below w.heap.size w wx → wx.cell? ⟨bA, oA + k, none⟩ = some (.string (A.getD k ByteArray.empty)) ∧ wx.cell? ⟨bR, oR + k, none⟩ = some (.int .i64 (R.getD k 0)) ∧ wx.cell? ⟨bL, oL + k, none⟩ = some (.int .i64 (L.getD k 0)) ∧ wx.cell? ⟨bK, oK + k, none⟩ = some (.slice aKr (K.getD k []).length cKr) ∧ wx.cell? ⟨bN, oN + k, none⟩ = some (.slice aNr (N.getD k []).length cNr)) :=
        fun wx hbx => ⟨cell_later hbx cA, cell_later hbx cR, cell_later hbx cL, cell_later hbx cK, cell_later hbx cN⟩
      have HKl : Hid (∀ wx, Below w.heap.size w wx → ∀ j, j < (K.getD k []).length → ((K.getD k []).getD j ByteArray.empty).size ≤ 9223372036854775807 ∧ ∃ b o, aKr = some ⟨b, o, none⟩ ∧ wx.cell? ⟨b, o + j, none⟩ = some (.string ((K.getD k []).getD j ByteArray.empty))) := fun wx hbx j hj => by
        obtain ⟨a', c', e', _, _, hc'⟩ := hK.below hbx
        injection e' with e1
        obtain ⟨h1, b, o, h2, h3⟩ := hc' j hj
        exact ⟨h1, b, o, e1.trans h2, h3⟩
      have HNl : Hid (∀ wx, Below w.heap.size w wx → ∀ j, j < (N.getD k []).length → ∃ b o, aNr = some ⟨b, o, none⟩ ∧ wx.cell? ⟨b, o + j, none⟩ = some (.int .i64 ((N.getD k []).getD j 0))) := fun wx hbx j hj => by
        obtain ⟨a', c', e', _, _, hc'⟩ := hN.below hbx
        injection e' with e1
        obtain ⟨b, o, h2, h3⟩ := hc' j hj
        exact ⟨b, o, e1.trans h2, h3⟩
      obtain ⟨d1, d2, d3, d4, d5⟩ := HCELL.out wr HB.out
      have hkl : (K.getD k []).length ≤ 65536 := by have h1 := row_le_words K k (by rw [HF.out.2.2.1]; exact hlt); have h2 := HSM.out.2.2.2.2.1; omega
      have HWK : Hid (words (K.take (k + 1)) = words (K.take k) + (K.getD k []).length) := words_take_succ K k (by rw [HF.out.2.2.1]; exact hlt)
      have hwk : words (K.take k) ≤ 65536 := by have h1 := words_take_le K k; have h2 := HSM.out.2.2.2.2.1; omega
      clear cA cR cL cK cN hK hN
      have HNI : Hid (fm (A.getD k ByteArray.empty) = none) := HNO.out _ (fun hx => by
        obtain ⟨i, hi, e⟩ := in_getD hx
        have hi' : i < k ∧ i < A.length := by rw [List.length_take] at hi; omega
        have e2 : (A.take k).getD i ByteArray.empty = A.getD i ByteArray.empty := by
          rw [List.getD_eq_getElem?_getD, List.getElem?_eq_getElem hi, List.getD_eq_getElem?_getD, List.getElem?_eq_getElem hi'.2]
          simp
        rw [e2] at e
        exact getD_ne HF.out.2.2.2.2.2.1 hi'.2 hlt (by omega) e)
      have HND : Hid ((K.getD k []).Nodup) := HROW1.out.2.2.1
      have HNZ : Hid (∀ j, j < (K.getD k []).length → (N.getD k []).getD j 0 ≠ 0) := HROW1.out.2.2.2
      have HNL : Hid ((N.getD k []).length = (K.getD k []).length) := HROW1.out.1
      have HNZR : Hid (¬ (R.getD k 0 = 0 ∧ L.getD k 0 = 0 ∧ (K.getD k []).length = 0)) := HROW1.out.2.1
      have HABS : Hid (absOf A R L K N (k + 1) = ⟨gupd (absOf A R L K N k).R (A.getD k ByteArray.empty) (R.getD k 0), gupd (absOf A R L K N k).L (A.getD k ByteArray.empty) (L.getD k 0), folUpd (absOf A R L K N k).F (A.getD k ByteArray.empty) (rowF (K.getD k []) (N.getD k []) (K.getD k []).length)⟩) := rfl
      have HTA : Hid (A.take (k + 1) = A.take k ++ [A.getD k ByteArray.empty]) := take_snoc A _ k hlt
      clear HROW1
      generalize A.getD k ByteArray.empty = x at *
      generalize K.getD k [] = ks at *
      generalize N.getD k [] = ns at *
      generalize R.getD k 0 = rk at *
      generalize L.getD k 0 = lk at *
      go_upto_if 29 with fail
      go_cut [13] (fun v wx => ∃ mb, v = .map mb ∧ HH wx w.heap.size (k + words (K.take k) + ks.length) (absOf A R L K N k) fm x mb (rowF ks ns ks.length) ∧ Below w.heap.size w wx ∧ (mb = none ↔ ks.length = 0))
      case first =>
        by_cases hk0 : ks.length = 0
        · have HE : Hid (HH wr w.heap.size (k + words (K.take k) + ks.length) (absOf A R L K N k) fm x none (rowF ks ns ks.length)) := HS1.out.fresh x (Or.inl ⟨rfl, fun y => by rw [hk0]; rfl⟩) (by omega) (fun b e => by cases e)
          have e29 : decide (0 < ks.length) = false := by simp [hk0]
          rw [e29]
          go_wp2
          go_meet
          case rel => exact ⟨none, rfl, HE.out, HB.out, fun _ => hk0, fun _ => rfl⟩
        · have hk1 : 0 < ks.length := by omega
          have HI0 : Hid (IntMap (wr.alloc (.map #[] 0)) wr.heap.size 0 (ks.take 0) (rowF ks ns 0)) := by rw [List.take_zero]; exact intMap_made wr _
          have hsz2 : w.heap.size < wr.heap.size := HS1.out.lt
          have HBA : Hid (Below wr.heap.size wr (wr.alloc (.map #[] 0))) := (Below.refl _ _).alloc (Nat.le_refl _) _
          have e29 : decide (0 < ks.length) = true := decide_eq_true hk1
          rw [e29]
          clear hk0 e29
          go_wp2
          generalize wr = w2 at *
          go_loopw [14] (fun j wx => ∃ p : Nat, p ≤ ks.length ∧ j = .int .i64 p ∧ IntMap wx w2.heap.size p (ks.take p) (rowF ks ns p) ∧ Below w2.heap.size w2 wx) (fun j _ => ks.length - (intOf j).toNat)
          case atStart => exact ⟨0, Nat.zero_le _, rfl, HI0.out, HBA.out⟩
          case round =>
            obtain ⟨p, hp, rfl, hI, hB2⟩ := hrel
            have HI : Hid (IntMap wr w2.heap.size p (ks.take p) (rowF ks ns p)) := hI
            have HB2 : Hid (Below w2.heap.size w2 wr) := hB2
            have HBR : Hid (Below w.heap.size w wr) := HB.out.trans (HB2.out.mono (Nat.le_of_lt hsz2))
            clear hI hB2 HI0 HBA d1 d2 d3 d4 d5
            obtain ⟨-, -, -, d4, d5⟩ := HCELL.out wr HBR.out
            by_cases hlp : p < ks.length
            · obtain ⟨hts, b, o, rfl, ct⟩ := HKl.out wr HBR.out p hlp
              obtain ⟨b', o', rfl, cn⟩ := HNl.out wr HBR.out p (by rw [HNL.out]; exact hlp)
              have hI' : IntMap wr.drew w2.heap.size p (ks.take p) (rowF ks ns p) := HI.out.of_block rfl
              obtain ⟨w4, hput, hI4, ht4⟩ := intMap_step HND.out hlp hI' hts (by omega)
              have HI4 : Hid (IntMap w4 w2.heap.size (p + 1) (ks.take (p + 1)) (rowF ks ns (p + 1))) := hI4
              have HB4 : Hid (Below w2.heap.size w2 w4) := HB2.out.drew.trans (turned_below ht4 (Nat.le_refl _))
              have HBR4 : Hid (Below w.heap.size w w4) := HB.out.trans (HB4.out.mono (Nat.le_of_lt hsz2))
              obtain ⟨-, -, -, g4, g5⟩ := HCELL.out w4 HBR4.out
              have gt : w4.cell? ⟨b, o + p, none⟩ = some (.string (ks.getD p ByteArray.empty)) := by
                obtain ⟨_, b1, o1, e, h⟩ := HKl.out w4 HBR4.out p hlp
                injection e with e
                injection e with e1 e2
                subst e1 e2
                exact h
              have gn : w4.cell? ⟨b', o' + p, none⟩ = some (.int .i64 (ns.getD p 0)) := by
                obtain ⟨b1, o1, e, h⟩ := HNl.out w4 HBR4.out p (by rw [HNL.out]; exact hlp)
                injection e with e
                injection e with e1 e2
                subst e1 e2
                exact h
              have hpn : (p : Int) < (ns.length : Int) := by rw [HNL.out]; omega
              clear hI4 ht4 hI'
              generalize ks.getD p ByteArray.empty = y at *
              generalize ns.getD p 0 = nv at *
              go_wp2
              go_region_held3 (fun w' => w'.cell? ⟨bK, oK + k, none⟩ = some (.slice (some ⟨b, o, none⟩) ks.length cKr) ∧ w'.cell? ⟨bN, oN + k, none⟩ = some (.slice (some ⟨b', o', none⟩) ns.length cNr) ∧ w'.cell? ⟨b, o + p, none⟩ = some (.string y) ∧ w'.cell? ⟨b', o' + p, none⟩ = some (.int .i64 nv)) (first | exact ⟨d4, d5, ct, cn⟩ | exact ⟨g4, g5, gt, gn⟩) (fail)
              go_wp2
              go_roundw
              case rel => exact ⟨p + 1, by omega, by go_num, HI4.out, HB4.out⟩
              case measure => simp [intOf]; omega
            · have hpe : p = ks.length := by omega
              have HFV : Hid (FV wr (some w2.heap.size) (k + words (K.take k) + ks.length) (rowF ks ns ks.length)) := by
                have hI := HI.out
                rw [hpe, List.take_length] at hI
                exact Or.inr ⟨w2.heap.size, ks.length, ks, rfl, by omega, hI, (fun e => by rw [e] at hk1; simp at hk1), row_good HND.out HNZ.out⟩
              have HE : Hid (HH wr w.heap.size (k + words (K.take k) + ks.length) (absOf A R L K N k) fm x (some w2.heap.size) (rowF ks ns ks.length)) := (HS1.out.later HB2.out).fresh x HFV.out (by omega) (fun b e => by
                cases e
                exact ⟨hsz2, fun i e => by have := (HS1.out.fol i).lt e; omega⟩)
              clear hpe
              go_wp2
              go_meet
              case rel => exact ⟨some w2.heap.size, rfl, HE.out, HBR.out, (fun e => by cases e), fun e => by omega⟩
      case rest =>
        obtain ⟨mb, rfl, hH, hB3, hmb⟩ := hcut
        have HBC : Hid (Below w.heap.size w wc) := hB3
        have HHC : Hid (HH wc w.heap.size (k + words (K.take k) + ks.length) (absOf A R L K N k) fm x mb (rowF ks ns ks.length)) := hH
        obtain ⟨m, dom, hm, hT⟩ := hH.tab
        have hT' : HT wc.drew w.heap.size m dom (absOf A R L K N k).R (absOf A R L K N k).L fm := hT.of_block rfl
        have hHd : HH wc.drew w.heap.size (k + words (K.take k) + ks.length) (absOf A R L K N k) fm x mb (rowF ks ns ks.length) := hH.later ((Below.refl _ _).drew)
        obtain ⟨w5, hput, hT5, ht5⟩ := hT'.put x rk lk mb hsz (by omega) (fun ⟨h1, h2, h3⟩ => HNZR.out ⟨h1, h2, hmb.1 h3⟩)
        unfold loadV at hput
        have HS5 : Hid (HS w5 w.heap.size (k + 1 + words (K.take (k + 1))) (absOf A R L K N (k + 1)) (fupd fm x mb)) := by
          show HS _ _ _ _ _
          rw [HABS.out, HWK.out]
          exact (hHd.shut2 rk lk ⟨m + 1, _, by omega, hT5, ht5.grown⟩).mono (by omega)
        have HB5 : Hid (Below w.heap.size w w5) := HBC.out.drew.trans (turned_below ht5 (Nat.le_refl _))
        have HNO5 : Hid (∀ y, y ∉ A.take (k + 1) → fupd fm x mb y = none) := fun y hy => by
          rw [HTA.out] at hy
          have hne : y ≠ x := fun e => hy (by rw [e]; simp)
          rw [fupd_other _ _ hne]
          exact HNO.out y (fun h => hy (by simp [h]))
        obtain ⟨g1, g2, g3, -, -⟩ := HCELL.out wc HBC.out
        obtain ⟨f1, f2, f3, -, -⟩ := HCELL.out w5 HB5.out
        clear hH hB3 hmb hT hT' hHd hT5 ht5 hm d1 d2 d3 d4 d5
        go_wp2
        go_region_held3 (fun w' => w'.cell? ⟨bA, oA + k, none⟩ = some (.string x) ∧ w'.cell? ⟨bR, oR + k, none⟩ = some (.int .i64 rk) ∧ w'.cell? ⟨bL, oL + k, none⟩ = some (.int .i64 lk)) (first | exact ⟨g1, g2, g3⟩ | exact ⟨f1, f2, f3⟩) (fail)
        go_wp2
        go_roundw
        case rel => exact ⟨k + 1, _, by omega, by go_num, HS5.out, HB5.out, HNO5.out⟩
        case measure => simp [intOf]; omega
    · have hke : k = A.length := by omega
      have HE : Hid (HS wr w.heap.size (A.length + words K) (absOf A R L K N A.length) fm) := by
        have := HS1.out
        rw [hke, List.take_of_length_le (by rw [HF.out.2.2.1]; exact Nat.le_refl _)] at this
        exact this
      subst hke
      clear HS1
      go_wp2
      go_ret
      exact ⟨_, fm, rfl, Nat.le_refl _, HE.out, HB.out⟩
end Go.Proofs.Qxb6603051a
