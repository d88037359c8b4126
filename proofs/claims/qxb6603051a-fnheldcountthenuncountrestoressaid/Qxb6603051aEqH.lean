/-
  DERIVED. HeldEquals.
-/
import Derived.Test.Qxb6603051aBuildH
namespace Go.Proofs.Qxb6603051a
open Go.RowKit Go.Maps

section
variable {A : List ByteArray} {R L : List Int} {K : List (List ByteArray)} {N : List (List Int)} {E : List ByteArray} {P : List (List ByteArray)} {w : World} {hb n : Nat} {fm : ByteArray → Option Nat}

theorem row_zero {ks : List ByteArray} {ns : List Int} (hk : ks.Nodup) (hn : ∀ j, j < ks.length → ns.getD j 0 ≠ 0) : (∀ x, rowF ks ns ks.length x = 0) ↔ ks.length = 0 := by
  constructor
  · intro h
    rcases Nat.eq_zero_or_pos ks.length with h0 | h0
    · exact h0
    · exact absurd ((rowF_at hk ns _ (Nat.le_refl _) 0 h0).symm.trans (h _)) (hn 0 h0)
  · intro h x; rw [h]; rfl

theorem hs_none (hf : Fits A R L K N E P) (h : HS w hb n (absOf A R L K N A.length) fm) {k : Nat} (hk : k < A.length) : fm (A.getD k ByteArray.empty) = none ↔ (K.getD k []).length = 0 := by
  have hrow := hf.2.2.2.2.2.2 k hk
  rw [(h.fol _).none_iff]
  show (∀ x, tabF A K N A.length (A.getD k ByteArray.empty) x = 0) ↔ _
  rw [tabF_at hf.2.2.2.2.2.1 K N _ (Nat.le_refl _) k hk]
  exact row_zero hrow.2.2.1 hrow.2.2.2

theorem hs_dom (hf : Fits A R L K N E P) (h : HS w hb n (absOf A R L K N A.length) fm) {m : Nat} {dom : List ByteArray} (hT : HT w hb m dom (absOf A R L K N A.length).R (absOf A R L K N A.length).L fm) : (∀ x, x ∈ dom ↔ x ∈ A) ∧ dom.length = A.length := by
  have key : ∀ x, x ∈ dom ↔ x ∈ A := fun x => by
    constructor
    · intro hx
      refine Classical.not_not.1 fun hxA => hT.can x (inB_iff.2 hx) ⟨tabR_out R _ (Nat.le_refl _) (by rw [List.take_length]; exact hxA), tabR_out L _ (Nat.le_refl _) (by rw [List.take_length]; exact hxA), (h.fol x).none_iff.2 (fun y => ?_)⟩
      show tabF A K N A.length x y = 0
      rw [tabF_out K N _ (Nat.le_refl _) (by rw [List.take_length]; exact hxA)]
    · intro hx
      obtain ⟨k, hk, rfl⟩ := in_getD hx
      refine Classical.not_not.1 fun hxd => ?_
      obtain ⟨h1, h2, h3⟩ := hT.out _ (inB_false.2 hxd)
      have hrow := hf.2.2.2.2.2.2 k hk
      refine hrow.2.1 ⟨?_, ?_, (hs_none hf h hk).1 h3⟩
      · have := tabR_at hf.2.2.2.2.2.1 R _ (Nat.le_refl _) k hk
        exact this.symm.trans h1
      · have := tabR_at hf.2.2.2.2.2.1 L _ (Nat.le_refl _) k hk
        exact this.symm.trans h2
  exact ⟨key, nodup_eq hT.nd hf.2.2.2.2.2.1 key⟩

/-- What is looked up at entry k. -/
theorem hs_at (hf : Fits A R L K N E P) (h : HS w hb n (absOf A R L K N A.length) fm) {k : Nat} (hk : k < A.length) (hs : (A.getD k ByteArray.empty).size ≤ 9223372036854775807) :
    (Instr.lookup 58 (.map (some hb)) (.string (A.getD k ByteArray.empty)) true).run Try.prog w = .ok (.tuple #[.agg #[.int .i64 (R.getD k 0), .int .i64 (L.getD k 0), .map (fm (A.getD k ByteArray.empty))], .bool true]) w := by
  obtain ⟨m, dom, _, hT⟩ := h.tab
  have hd := (hs_dom hf h hT).1 (A.getD k ByteArray.empty)
  rw [hT.look_ok _ hs, inB_iff.2 (hd.2 (getD_in hk))]
  have e1 : (absOf A R L K N A.length).R (A.getD k ByteArray.empty) = R.getD k 0 := tabR_at hf.2.2.2.2.2.1 R _ (Nat.le_refl _) k hk
  have e2 : (absOf A R L K N A.length).L (A.getD k ByteArray.empty) = L.getD k 0 := tabR_at hf.2.2.2.2.2.1 L _ (Nat.le_refl _) k hk
  rw [e1, e2]
  rfl

/-- The followers at entry k. -/
theorem hs_fol (hf : Fits A R L K N E P) (h : HS w hb n (absOf A R L K N A.length) fm) {k : Nat} (hk : k < A.length) (h0 : 0 < (K.getD k []).length) :
    ∃ b, fm (A.getD k ByteArray.empty) = some b ∧ ∀ w', w'.heap[b]? = w.heap[b]? → (∀ ty, (Builtin.len_ #[23] ty #[.map (some b)]).run Try.prog w' = .ok (.int .i64 ((K.getD k []).length : Nat)) w') ∧
      ∀ j, j < (K.getD k []).length → ((K.getD k []).getD j ByteArray.empty).size ≤ 9223372036854775807 → (Instr.lookup 23 (.map (some b)) (.string ((K.getD k []).getD j ByteArray.empty)) true).run Try.prog w' = .ok (.tuple #[.int .i64 ((N.getD k []).getD j 0), .bool true]) w' := by
  have hrow := hf.2.2.2.2.2.2 k hk
  have hne : fm (A.getD k ByteArray.empty) ≠ none := fun e => by have := (hs_none hf h hk).1 e; omega
  rcases h.fol (A.getD k ByteArray.empty) with ⟨e, _⟩ | ⟨b, m, dom, hb1, hm, hI, _, hg⟩
  · exact absurd e hne
  · have eF : (absOf A R L K N A.length).F (A.getD k ByteArray.empty) = rowF (K.getD k []) (N.getD k []) (K.getD k []).length := tabF_at hf.2.2.2.2.2.1 K N _ (Nat.le_refl _) k hk
    rw [eF] at hI hg
    have hgood := row_good hrow.2.2.1 hrow.2.2.2
    have hmem : ∀ x, x ∈ dom ↔ x ∈ K.getD k [] := fun x => by rw [← inB_iff, hg x, ← hgood x, inB_iff]
    have hlen : dom.length = (K.getD k []).length := nodup_eq hI.1 hrow.2.2.1 hmem
    refine ⟨b, hb1, fun w' hw' => ⟨fun ty => ?_, fun j hj hs => ?_⟩⟩
    · rw [(hI.of_block hw').len ty, hlen]
    · have hin : inB ((K.getD k []).getD j ByteArray.empty) dom = true := inB_iff.2 ((hmem _).2 (getD_in hj))
      rw [(hI.of_block hw').look_ok _ hs, hin, if_pos rfl, rowF_at hrow.2.2.1 _ _ (Nat.le_refl _) j hj]
end

set_option maxRecDepth 100000 in
set_option maxHeartbeats 4000000 in
theorem equals_any (vA vR vL vK vN : Value) (A : List ByteArray) (R L : List Int) (K : List (List ByteArray)) (N : List (List Int)) (E : List ByteArray) (P : List (List ByteArray)) (w : World) (hb n : Nat) (fm : ByteArray → Option Nat)
    (hA : Strs w vA A) (hR : Ints w vR R) (hL : Ints w vL L) (hK : STab w vK K) (hN : ITab w vN N) (hsm : Small A R L K N E P) (hf : Fits A R L K N E P) (hH : HS w hb n (absOf A R L K N A.length) fm) :
    Calls Try.prog 37 #[.map (some hb), vA, vR, vL, vK, vN] w fun e w' => e = .returned (.bool true) ∧ Below w.heap.size w w' := by
  obtain ⟨aA, aR, aL, aK, aN, c1, c2, c3, c4, c5, rfl, rfl, rfl, rfl, rfl, hin⟩ := in_at hA hR hL hK hN hf.1 hf.2.1 hf.2.2.1 hf.2.2.2.1
  have HSM : Hid (Small A R L K N E P) := hsm
  have HF : Hid (Fits A R L K N E P) := hf
  have HIN : Hid (∀ k, k < A.length → InAt w aA aR aL aK aN A R L K N k) := hin
  have HH0 : Hid (HS w hb n (absOf A R L K N A.length) fm) := hH
  have hAl : A.length ≤ 65536 := HSM.out.1
  have hlen : ∀ ty, (Builtin.len_ #[58] ty #[.map (some hb)]).run Try.prog w = .ok (.int .i64 (A.length : Nat)) w := fun ty => by
    obtain ⟨m, dom, _, hT⟩ := hH.tab
    rw [hT.len ty, (hs_dom hf hH hT).2]
  clear hA hR hL hK hN hsm hf hin hH
  go_enter Try.func37, Try.ntmps37
  go_wp2
  go_loopw [13] (fun i wr => ∃ k : Nat, k ≤ A.length ∧ i = .int .i64 k ∧ Below w.heap.size w wr) (fun i _ => A.length - (intOf i).toNat)
  case atStart => exact ⟨0, Nat.zero_le _, rfl, Below.refl _ _⟩
  case round =>
    obtain ⟨k, hk, rfl, hB⟩ := hrel
    have HB : Hid (Below w.heap.size w wr) := hB
    clear hB hlen
    by_cases hlt : k < A.length
    · obtain ⟨⟨bA, oA, rfl, cA, hsz⟩, ⟨bR, oR, rfl, cR⟩, ⟨bL, oL, rfl, cL⟩, ⟨bK, oK, uK, rfl, cK, hK⟩, ⟨bN, oN, uN, rfl, cN, hN⟩⟩ := HIN.out k hlt
      obtain ⟨aKr, cKr, rfl⟩ := hK.slice
      obtain ⟨aNr, cNr, rfl⟩ := hN.slice
      have HCELL : Hid (∀ wx, Below w.heap.size w wx → wx.cell? ⟨bA, oA + k, none⟩ = some (.string (A.getD k ByteArray.empty)) ∧ wx.cell? ⟨bR, oR + k, none⟩ = some (.int .i64 (R.getD k 0)) ∧ wx.cell? ⟨bL, oL + k, none⟩ = some (.int .i64 (L.getD k 0)) ∧ wx.cell? ⟨bK, oK + k, none⟩ = some (.slice aKr (K.getD k []).length cKr) ∧ wx.cell? ⟨bN, oN + k, none⟩ = some (.slice aNr (N.getD k []).length cNr)) :=
        fun wx hbx => ⟨cell_later hbx cA, cell_later hbx cR, cell_later hbx cL, cell_later hbx cK, cell_later hbx cN⟩
      have HKl : Hid (∀ wx, Below w.heap.size w wx → ∀ j, j < (K.getD k []).length → ((K.getD k []).getD j ByteArray.empty).size ≤ 9223372036854775807 ∧ ∃ b o, aKr = some ⟨b, o, none⟩ ∧ wx.cell? ⟨b, o + j, none⟩ = some (.string ((K.getD k []).getD j ByteArray.empty))) := fun wx hbx j hj => by
        obtain ⟨a', c', e', _, _, hc'⟩ := hK.below hbx
        injection e' with e1
        obtain ⟨h1, b, o, h2, h3⟩ := hc' j hj
        exact ⟨h1, b, o, e1.trans h2, h3⟩
      have HNl : Hid (∀ wx, Below w.heap.size w wx → ∀ j, j < (N.getD k []).length → ∃ b o, aNr = some ⟨b, o, none⟩ ∧ wx.cell? ⟨b, o + j, none⟩ = some (.int .i64 ((N.getD k []).getD j 0))) := fun wx hbx j hj => by
        obtain ⟨a', c', e', _, _, hc'⟩ := hN.below hbx
        injection e' with e1
        obtain ⟨b, o, h2, h3⟩ := hc' j hj
        exact ⟨b, o, e1.trans h2, h3⟩
      have hlook := hs_at HF.out (HH0.out.later HB.out) hlt hsz
      have HNL : Hid ((N.getD k []).length = (K.getD k []).length) := (HF.out.2.2.2.2.2.2 k hlt).1
      have HNONE : Hid ((K.getD k []).length = 0 → fm (A.getD k ByteArray.empty) = none) := (hs_none HF.out HH0.out hlt).2
      have HFOL : Hid (0 < (K.getD k []).length → ∃ b, fm (A.getD k ByteArray.empty) = some b ∧ ∀ w', Below w.heap.size w w' → (∀ ty, (Builtin.len_ #[23] ty #[.map (some b)]).run Try.prog w' = .ok (.int .i64 ((K.getD k []).length : Nat)) w') ∧ ∀ j, j < (K.getD k []).length → ((K.getD k []).getD j ByteArray.empty).size ≤ 9223372036854775807 → (Instr.lookup 23 (.map (some b)) (.string ((K.getD k []).getD j ByteArray.empty)) true).run Try.prog w' = .ok (.tuple #[.int .i64 ((N.getD k []).getD j 0), .bool true]) w') := fun h0 => by
        obtain ⟨b, h1, h2⟩ := hs_fol HF.out HH0.out hlt h0
        exact ⟨b, h1, fun w' hw' => h2 w' (hw'.block b ((HH0.out.fol _).lt h1))⟩
      have hkl : (K.getD k []).length ≤ 65536 := by have h1 := row_le_words K k (by rw [HF.out.2.2.1]; exact hlt); have h2 := HSM.out.2.2.2.2.1; omega
      obtain ⟨d1, d2, d3, d4, d5⟩ := HCELL.out wr HB.out
      clear cA cR cL cK cN hK hN
      generalize A.getD k ByteArray.empty = x at *
      generalize K.getD k [] = ks at *
      generalize N.getD k [] = ns at *
      generalize R.getD k 0 = rk at *
      generalize L.getD k 0 = lk at *
      generalize fm x = mx at *
      have HB1 : Hid (Below w.heap.size w (wr.alloc (.cells #[.int .i64 rk, .int .i64 lk, .map mx] 80))) := HB.out.trans ((Below.refl _ _).alloc HB.out.size _)
      have HR1 : Hid ((wr.alloc (.cells #[.int .i64 rk, .int .i64 lk, .map mx] 80)).rowIs wr.heap.size 80 3 (fun i => if i = 0 then .int .i64 rk else if i = 1 then .int .i64 lk else .map mx)) := World.rowIs_alloc wr _ 80 _ (fun i hi => by
        have hi' : i < 3 := hi
        have : i = 0 ∨ i = 1 ∨ i = 2 := by omega
        rcases this with rfl | rfl | rfl <;> rfl)
      go_upto_region 7 with fail
      generalize wr.alloc (.cells #[.int .i64 rk, .int .i64 lk, .map mx] 80) = w1 at HB1 HR1 ⊢
      generalize wr.heap.size = lb at HR1 ⊢
      clear d1 d2 d3 d4 d5 hlook
      obtain ⟨-, d2, d3, -, -⟩ := HCELL.out w1 HB1.out
      have q0 : w1.cell? ⟨lb, 0, none⟩ = some (.int .i64 rk) := HR1.out.cell (i := 0) (by omega)
      have q1 : w1.cell? ⟨lb, 1, none⟩ = some (.int .i64 lk) := HR1.out.cell (i := 1) (by omega)
      go_quiet (fail)
      have HB2 : Hid (Below w.heap.size w (w1.drewN nq)) := HB1.out.trans (below_drewN' _ _ _)
      have HR2 : Hid ((w1.drewN nq).rowIs lb 80 3 (fun i => if i = 0 then .int .i64 rk else if i = 1 then .int .i64 lk else .map mx)) := HR1.out.of_block ((below_drewN' w1 nq w1.heap.size).block lb HR1.out.lt)
      generalize w1.drewN nq = w2 at HB2 HR2 ⊢
      clear d2 d3 q0 q1 HR1 HB1 HB
      obtain ⟨-, -, -, d4, -⟩ := HCELL.out w2 HB2.out
      have q2 : w2.cell? ⟨lb, 2, none⟩ = some (.map mx) := HR2.out.cell (i := 2) (by omega)
      by_cases hk0 : ks.length = 0
      · have hm := HNONE.out hk0
        subst hm
        have qn : ∀ w : World, (binOp .neq 23 (.map none) (.map none)).run Try.prog w = .ok (.bool false) w := fun w => run_neq_map_nil w 23 _ _ none Try.underlying23
        rw [hk0] at d4
        go_wp2
        go_roundw
        case rel => exact ⟨k + 1, by omega, by go_num, HB2.out⟩
        case measure => simp [intOf]; omega
      · obtain ⟨b, hm, hfol⟩ := HFOL.out (by omega)
        subst hm
        have HFO : Hid (∀ w', Below w.heap.size w w' → (∀ ty, (Builtin.len_ #[23] ty #[.map (some b)]).run Try.prog w' = .ok (.int .i64 (ks.length : Nat)) w') ∧ ∀ j, j < ks.length → (ks.getD j ByteArray.empty).size ≤ 9223372036854775807 → (Instr.lookup 23 (.map (some b)) (.string (ks.getD j ByteArray.empty)) true).run Try.prog w' = .ok (.tuple #[.int .i64 (ns.getD j 0), .bool true]) w') := hfol
        have hlenF : ∀ nq ty, (Builtin.len_ #[23] ty #[.map (some b)]).run Try.prog (w2.drewN nq) = .ok (.int .i64 (ks.length : Nat)) (w2.drewN nq) := fun nq => (HFO.out _ (HB2.out.trans (below_drewN' _ _ _))).1
        have hk0' : ((ks.length : Int) == 0) = false := by rw [beq_eq_false_iff_ne]; omega
        clear hfol HFOL HNONE
        go_wp2
        go_quiet (fail)
        have HB3 : Hid (Below w.heap.size w (w2.drewN nq)) := HB2.out.trans (below_drewN' _ _ _)
        have HR3 : Hid ((w2.drewN nq).rowIs lb 80 3 (fun i => if i = 0 then .int .i64 rk else if i = 1 then .int .i64 lk else .map (some b))) := HR2.out.of_block ((below_drewN' w2 nq w2.heap.size).block lb HR2.out.lt)
        generalize w2.drewN nq = w3 at HB3 HR3 ⊢
        clear d4 q2 HR2 HB2 hlenF
        go_wp2
        go_loopw [16] (fun j wx => ∃ p : Nat, p ≤ ks.length ∧ j = .int .i64 p ∧ Below w.heap.size w wx ∧ wx.rowIs lb 80 3 (fun i => if i = 0 then .int .i64 rk else if i = 1 then .int .i64 lk else .map (some b))) (fun j _ => ks.length - (intOf j).toNat)
        case atStart => exact ⟨0, Nat.zero_le _, rfl, HB3.out, HR3.out⟩
        case round =>
          obtain ⟨p, hp, rfl, hB4, hR4⟩ := hrel
          have HB4 : Hid (Below w.heap.size w wr) := hB4
          have HR4 : Hid (wr.rowIs lb 80 3 (fun i => if i = 0 then .int .i64 rk else if i = 1 then .int .i64 lk else .map (some b))) := hR4
          clear hB4 hR4 HB3 HR3
          obtain ⟨-, -, -, d4, d5⟩ := HCELL.out wr HB4.out
          have q2 : wr.cell? ⟨lb, 2, none⟩ = some (.map (some b)) := HR4.out.cell (i := 2) (by omega)
          by_cases hlp : p < ks.length
          · obtain ⟨hts, b2, o2, rfl, ct⟩ := HKl.out wr HB4.out p hlp
            obtain ⟨b3, o3, rfl, cn⟩ := HNl.out wr HB4.out p (by rw [HNL.out]; exact hlp)
            have hlk : ∀ nq, (Instr.lookup 23 (.map (some b)) (.string (ks.getD p ByteArray.empty)) true).run Try.prog (wr.drewN nq) = .ok (.tuple #[.int .i64 (ns.getD p 0), .bool true]) (wr.drewN nq) := fun nq => (HFO.out _ (HB4.out.trans (below_drewN' _ _ _))).2 p hlp hts
            have hpn : (p : Int) < (ns.length : Int) := by rw [HNL.out]; omega
            generalize ks.getD p ByteArray.empty = y at *
            generalize ns.getD p 0 = nv at *
            go_wp2
            go_quiet (fail)
            go_wp2
            go_roundw
            case rel => exact ⟨p + 1, by omega, by go_num, HB4.out.trans (below_drewN' _ _ _), HR4.out.of_block ((below_drewN' wr nq wr.heap.size).block lb HR4.out.lt)⟩
            case measure => simp [intOf]; omega
          · go_wp2
            go_roundw
            case rel => exact ⟨k + 1, by omega, by go_num, HB4.out⟩
            case measure => simp [intOf]; omega
    · go_wp2
      go_ret
      exact ⟨rfl, HB.out⟩
end Go.Proofs.Qxb6603051a
