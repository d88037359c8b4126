/-
  DERIVED. Build: its walk.
-/
import Derived.Test.Qxb6600940aBuildS
import Derived.Test.Qxb6600940aBuildP
import Derived.Outline
import Derived.Deep.RegionHeld3
import Derived.Deep.RegionLaw
import Derived.Deep.DeepCutAuto
namespace Go.Proofs.Qxb6600940a
open Go.RowKit Go.Maps

set_option maxRecDepth 100000 in
set_option maxHeartbeats 20000000 in
theorem build_any (v1 v2 v3 v4 : Value) (T : List (List ByteArray)) (C X : List ByteArray) (D : List Int) (w : World) (hT : STabC w v1 T) (hC : Strs w v2 C) (hX : Strs w v3 X) (hD : Ints w v4 D) (e1 : C.length = T.length) (e2 : X.length = T.length) (e3 : D.length = T.length)
    (h4 : T.length ≤ 4096) (htot : (topQ T T.length).length ≤ 4096) (hasc : ∀ i, i < T.length → Asc (T.getD i [])) : Calls Try.prog 25 #[v1, v2, v3, v4] w fun e w' => Built w T C X D e w' := by
  obtain ⟨ta, ca, xa, da, cp1, cp2, cp3, cp4, tv, rfl, rfl, rfl, rfl, hin⟩ := in_at hT hC hX hD e1 e2 e3
  have HIN : Hid (∀ k, k < T.length → InAt w ta ca xa da T C X D tv k) := hin
  have HASC : Hid (∀ i, i < T.length → Asc (T.getD i [])) := hasc
  have HTOT : Hid ((topQ T T.length).length ≤ 4096) := htot
  clear hin hasc htot hT hC hX hD e1 e2 e3
  generalize hn : T.length = n at *
  have hmk := run_make_row' (P := Try.prog) 58 45 (.pointer none) 8 Try.underlying58 Try.info45 rfl .i64 .i64 n (by omega) (by omega)
  go_enter Try.func25, Try.ntmps25
  go_wp2
  go_loopw [11] (fun i wr => ∃ k : Nat, k ≤ n ∧ i = .int .i64 k ∧ L1 w wr n C X D tv k) (fun i _ => n - (intOf i).toNat)
  case atStart => exact ⟨0, Nat.zero_le _, rfl, l1_start _ _ _ _ _ _⟩
  case round =>
    obtain ⟨k, hk, rfl, hL⟩ := hrel
    have HL : Hid (L1 w wr n C X D tv k) := hL
    clear hmk hL
    by_cases hlt : k < n
    · obtain ⟨⟨b1, o1, a, c, rfl, q1, _, htv⟩, ⟨b2, o2, rfl, q2, _⟩, ⟨b3, o3, rfl, q3, _⟩, ⟨b4, o4, rfl, q4⟩⟩ := HIN.out k hlt
      have c1 := cell_later HL.out.below q1
      have c2 := cell_later HL.out.below q2
      have c3 := cell_later HL.out.below q3
      have c4 := cell_later HL.out.below q4
      have c5 := HL.out.row.cell hlt
      rw [if_neg (Nat.lt_irrefl _)] at c5
      have z5 := HL.out.row.frozen k
      have hsz := HL.out.size
      have HSTEP : Hid _ := HL.out.drew.step htv
      rw [htv] at c1
      have n1 := World.block_lt_of_cell? _ _ q1
      have n2 := World.block_lt_of_cell? _ _ q2
      have n3 := World.block_lt_of_cell? _ _ q3
      have n4 := World.block_lt_of_cell? _ _ q4
      have n1a : ¬ b1 = w.heap.size := by simp only at n1; omega
      have n2a : ¬ b2 = w.heap.size := by simp only at n2; omega
      have n3a : ¬ b3 = w.heap.size := by simp only at n3; omega
      have n4a : ¬ b4 = w.heap.size := by simp only at n4; omega
      have n1b : ¬ b1 = w.heap.size + 1 + k := by simp only at n1; omega
      have n2b : ¬ b2 = w.heap.size + 1 + k := by simp only at n2; omega
      have n3b : ¬ b3 = w.heap.size + 1 + k := by simp only at n3; omega
      have n4b : ¬ b4 = w.heap.size + 1 + k := by simp only at n4; omega
      have n5b : ¬ w.heap.size = w.heap.size + 1 + k := by omega
      clear q1 q2 q3 q4 htv n1 n2 n3 n4
      generalize C.getD k ⟨#[]⟩ = bc at c2 HSTEP
      generalize X.getD k ⟨#[]⟩ = bx at c3 HSTEP
      generalize D.getD k 0 = bd at c4 HSTEP
      generalize (T.getD k []).length = tn at c1 HSTEP
      have c5a : (wr.alloc (.cells (bundleCells a tn c bc bx bd) 52)).cell? ⟨w.heap.size, k, none⟩ = some (.pointer none) := Lib.cell?_alloc_some _ c5
      have z5a : (wr.alloc (.cells (bundleCells a tn c bc bx bd) 52)).frozen? ⟨w.heap.size, k, none⟩ = false := (World.frozen?_of_block (a := ⟨w.heap.size, k, none⟩) (Go.Deep.blk_alloc_lt wr _ w.heap.size (by omega))).trans z5
      go_wp2
      go_region_held3 (fun w' => w'.cell? ⟨b1, o1 + k, none⟩ = some (.slice a tn c) ∧ w'.cell? ⟨b2, o2 + k, none⟩ = some (.string bc) ∧ w'.cell? ⟨b3, o3 + k, none⟩ = some (.string bx) ∧ w'.cell? ⟨b4, o4 + k, none⟩ = some (.int .i64 bd))
        (first | (go_keep; done) | exact ⟨cell_as c1 n1a, cell_as c2 n2a, cell_as c3 n3a, cell_as c4 n4a⟩)
        ((go_at_call 35; refine (newBundle_any _ _ _ _ _ _ _).mono ?_; rintro e w5 ⟨rfl, rfl⟩))
      go_wp2
      go_roundw
      case rel => exact ⟨k + 1, by omega, by go_num, HSTEP.out⟩
      case measure => simp [intOf]; omega
    · have hkn : k = n := by omega
      subst hkn
      clear hlt hk
      have HG0 : Hid _ := gath_start wr (fun i => w.heap.size + 1 + i) (fun i => D.getD i 0)
      generalize wr = W1 at *
      have HLW : Hid (Below w.heap.size w W1) := HL.out.below
      have HSZ : Hid (W1.heap.size = w.heap.size + 1 + k) := HL.out.size
      have hmm60 : ∀ w : World, (Instr.makeMap 60 none).run Try.prog w = .ok (.map (some w.heap.size)) (w.alloc (.map #[] 0)) := fun _ => rfl
      have hmm62 : ∀ w : World, (Instr.makeMap 62 none).run Try.prog w = .ok (.map (some w.heap.size)) (w.alloc (.map #[] 0)) := fun _ => rfl
      go_wp2
      go_loopw [13, 14, 15, 16, 18, 19, 20, 21, 22] (fun a0 a1 a2 a3 b0 b1 b2 b3 i wx => ∃ q : Nat, q ≤ k ∧ i = .int .i64 q ∧ Gath W1 wx (fun i => w.heap.size + 1 + i) (fun i => D.getD i 0) (topQ T q) (subQ C X q) a0 a1 a2 a3 b0 b1 b2 b3) (fun _ _ _ _ _ _ _ _ i _ => k - (intOf i).toNat)
      case atStart => exact ⟨0, Nat.zero_le _, rfl, HG0.out⟩
      case round =>
        obtain ⟨q, hq, rfl, hG⟩ := hrel
        clear HG0 hmm60 hmm62
        by_cases hlt : q < k
        · have HLO : Hid (∀ wx, Below W1.heap.size W1 wx → Below w.heap.size w wx ∧ wx.cell? ⟨w.heap.size, q, none⟩ = some (.pointer (some ⟨w.heap.size + 1 + q, 0, none⟩))) := fun wx hb => ⟨HLW.out.trans (hb.mono (by have := HSZ.out; omega)), by
            have hszW := HSZ.out
            have := HL.out.row.cell hlt
            rw [if_pos hlt] at this
            exact (World.cell?_of_block (a := ⟨w.heap.size, q, none⟩) (hb.block w.heap.size (by omega))).trans this⟩
          obtain ⟨⟨tb, tO, a, c, rfl, q1, hstr, htv⟩, ⟨cb, co, rfl, q2, hcs⟩, ⟨xb, xo, rfl, q3, hxs⟩, ⟨db, dO, rfl, q4⟩⟩ := HIN.out q hlt
          rw [htv] at q1
          have HIN2 : Hid (∀ wx, Below W1.heap.size W1 wx → wx.cell? ⟨tb, tO + q, none⟩ = some (.slice a (T.getD q []).length c) ∧ wx.cell? ⟨cb, co + q, none⟩ = some (.string (C.getD q ⟨#[]⟩)) ∧ wx.cell? ⟨xb, xo + q, none⟩ = some (.string (X.getD q ⟨#[]⟩)) ∧ wx.cell? ⟨db, dO + q, none⟩ = some (.int .i64 (D.getD q 0)) ∧ wx.cell? ⟨w.heap.size, q, none⟩ = some (.pointer (some ⟨w.heap.size + 1 + q, 0, none⟩))) :=
            fun wx hb => have hb' := HLO.out wx hb; ⟨cell_later hb'.1 q1, cell_later hb'.1 q2, cell_later hb'.1 q3, cell_later hb'.1 q4, hb'.2⟩
          have HSTR : Hid (∀ wx, Below W1.heap.size W1 wx → ∀ j, j < (T.getD q []).length → ((T.getD q []).getD j ByteArray.empty).size ≤ 9223372036854775807 ∧ ∃ b o, a = some ⟨b, o, none⟩ ∧ wx.cell? ⟨b, o + j, none⟩ = some (.string ((T.getD q []).getD j ByteArray.empty))) := fun wx hb j hj => by
            obtain ⟨⟨a', c', e', _, _, hc⟩, _⟩ := hstr
            rw [htv] at e'
            injection e' with e1 e2 e3
            obtain ⟨h1, b, o, h2, h3⟩ := hc j hj
            exact ⟨h1, b, o, e1.trans h2, cell_later (HLO.out wx hb).1 h3⟩
          have HQL : Hid (∀ p, (partQ T q p).length ≤ 4096) := fun p => Nat.le_trans (partQ_len T p hlt) HTOT.out
          have HPQ : Hid (∀ p, p < (T.getD q []).length → partQ T q (p + 1) = partQ T q p ++ [((T.getD q []).getD p ByteArray.empty, q)]) := fun p hp => partQ_succ T q p hp
          have HPA : Hid (partQ T q (T.getD q []).length = topQ T (q + 1)) := partQ_all T q
          have hG' : Gath W1 wr (fun i => w.heap.size + 1 + i) (fun i => D.getD i 0) (partQ T q 0) (subQ C X q) u13 u14 u15 u16 u18 u19 u20 u21 := by rw [partQ_zero]; exact hG
          have HG : Hid _ := hG'
          obtain ⟨c1, -⟩ := HIN2.out wr hG.low
          clear q1 q2 q3 q4 hstr htv hG hG' HLO
          have htn : (T.getD q []).length ≤ 4096 := by
            have := HQL.out (T.getD q []).length
            unfold partQ at this
            rw [List.length_append, List.length_map, List.take_length] at this
            omega
          generalize T.getD q [] = row at *
          generalize hrl : row.length = tn at *
          go_wp2
          go_loopw [13, 14, 15, 16, 24] (fun a0 a1 a2 a3 j wx => ∃ p : Nat, p ≤ tn ∧ j = .int .i64 p ∧ Gath W1 wx (fun i => w.heap.size + 1 + i) (fun i => D.getD i 0) (partQ T q p) (subQ C X q) a0 a1 a2 a3 u18 u19 u20 u21) (fun _ _ _ _ j _ => tn - (intOf j).toNat)
          case atStart => exact ⟨0, Nat.zero_le _, rfl, HG.out⟩
          case round =>
            obtain ⟨p, hp, rfl, hG3⟩ := hrel
            clear HG c1
            by_cases hlp : p < tn
            · obtain ⟨hts, b, o, rfl, ct⟩ := HSTR.out wr hG3.low p hlp
              have HPQ' : Hid _ := HPQ.out p hlp
              have HQ4 : Hid _ := HQL.out p
              have HSTR2 : Hid (∀ wx, Below W1.heap.size W1 wx → wx.cell? ⟨b, o + p, none⟩ = some (.string (row.getD p ByteArray.empty))) := fun wx hb => by
                obtain ⟨_, b', o', e, h⟩ := HSTR.out wx hb p hlp
                injection e with e
                injection e with e1 e2
                subst e1 e2
                exact h
              go_upto_region 24 with fail
              refine part_in (by assumption) ?_
              refine build_top C X D w W1 wr k q p tn b o tb tO cb co xb xo db dO cp4 c (row.getD p ByteArray.empty) u13 u14 u15 u16 u18 u19 u20 u21 (partQ T q p) (subQ C X q) h4 hlt htn hlp hts HIN2 ct HSTR2 HQ4 hG3 _ _ (fun _ _ h => h) ?_
              unfold Hid
              intros
              rename_i w5 hG5
              try dsimp only
              go_wp2
              go_roundw
              case rel => exact ⟨p + 1, by omega, by go_num, by rw [HPQ'.out]; exact hG5⟩
              case measure => simp [intOf]; omega
            · have hptn : p = tn := by omega
              have hG4 : Gath W1 wr (fun i => w.heap.size + 1 + i) (fun i => D.getD i 0) (topQ T (q + 1)) (subQ C X q) u13 u14 u15 u16 u18 u19 u20 u21 := by rw [← HPA.out, ← hptn]; exact hG3
              subst hptn
              have HQ4 : Hid ((subQ C X q).length ≤ 4096) := Nat.le_trans (subQ_len C X q) (by omega)
              clear hG3 hlp HPA HPQ HQL HSTR
              go_upto_region 36 with fail
              refine part_in (by assumption) ?_
              refine build_subj C X D w W1 wr k q p tb tO cb co xb xo db dO cp2 cp3 cp4 c a u13 u14 u15 u16 u18 u19 u20 u21 (topQ T (q + 1)) (subQ C X q) h4 hlt hcs hxs HIN2 HQ4 hG4 (subQ_succ C X q) _ _ (fun _ _ h => h) ?_
              unfold Hid
              intros
              rename_i w5 hG5
              try dsimp only
              go_wp2
              go_roundw
              case rel => exact ⟨q + 1, by omega, by go_num, hG5⟩
              case measure => simp [intOf]; omega
        · have hqk : q = k := by omega
          subst hqk
          have HG : Hid _ := hG
          obtain ⟨la0, lc0, hu13⟩ : ∃ la lc, u13 = .slice la (keysOf (topQ T q)).length lc := by obtain ⟨F, hB, hTS, _⟩ := HG.out; have := hB.fam.own 0; rw [hTS.keys] at this; exact slice_of_own this
          subst hu13
          clear hlt hq hG
          go_upto_region 50 with fail
          exact build_tail T C X D w W1 wr tv q ta ca xa da u14 u15 u16 u18 u19 u20 u21 la0 lc0 hn h4 HIN HASC HTOT HL HG _ (by assumption)
end Go.Proofs.Qxb6600940a
