import Derived.Test.Qxb6600624aJoin
import Derived.Deep.RegionHeld3
namespace Go.Proofs.Qxb6600624a
open Go.RowKit

set_option maxRecDepth 100000 in
set_option maxHeartbeats 2000000 in
theorem zz_any (tv kv : Value) (T K : List (List Int)) (u v : Nat) (lim : Bool) (left : Int) (w : World) (hT1 : Tab w tv T) (hK1 : Tab w kv K) (hn : T.length ≤ 65536) (hTK : T.length = K.length)
    (hsh : ∀ k, k < T.length → (T.getD k []).length = (K.getD k []).length) (hrows : ∀ k, k < T.length → Plain.deg T k ≤ 131072)
    (hin : ∀ k, k < T.length → ∀ j, j < Plain.deg T k → (T.getD k []).getD j 0 = ((Plain.tgtOf T k j : Nat) : Int))
    (hu : u < T.length) (hv : v < T.length) (hT : Plain.InR T T.length) (hleft : left ≤ 9223372036854775807) :
    Calls Try.prog 16 #[tv, kv, .int .i64 u, .int .i64 v, .bool lim, .int .i64 left] w fun e w' => ZZAns w w' lim T K u v left e := by
  obtain ⟨a, cap, rfl, hl, hc⟩ := hT1
  obtain ⟨a2, cap2, rfl, hl2, hc2⟩ := hK1
  have hmk := run_make_row' (P := Try.prog) 40 41 (.slice none 0 0) 24 Try.underlying40 Try.info41 rfl .i64 .i64 T.length (by omega) (by omega)
  have HTK : Hid (T.length = K.length) := hTK
  have HRW : Hid (∀ k, k < T.length → Plain.deg T k ≤ 131072) := hrows
  have HINR : Hid (Plain.InR T T.length) := hT
  clear hTK hT
  go_enter Try.func16, Try.ntmps16
  go_wp2
  go_loopw [15] (fun i wr => ∃ k : Nat, k ≤ T.length ∧ i = .int .i64 k ∧ BOuter w wr T K k) (fun i _ => T.length - (intOf i).toNat)
  case atStart => exact ⟨0, Nat.zero_le _, rfl, bouter_start w T K⟩
  case round =>
    obtain ⟨k, hk, rfl, hO⟩ := hrel
    clear hmk
    by_cases hlt : k < T.length
    · obtain ⟨hrl, b, o, x, rfl, hcell, a', cap', rfl, hn', hc'⟩ := hc k hlt
      obtain ⟨hrl2, b2, o2, x2, rfl, hcell2, a2', cap2', rfl, hn2', hc2'⟩ := hc2 k (by rw [← HTK.out]; exact hlt)
      have hlt2 : k < K.length := by rw [← HTK.out]; exact hlt
      have hkI : (k : Int) < (T.length : Int) := by omega
      have hk2I : (k : Int) < (K.length : Int) := by omega
      have hcell1 := cell_later hO.below hcell
      have hr131 := hrows k hlt
      have hsize := hO.size
      have hdg : (T.getD k []).length = Plain.deg T k := rfl
      have hsk := hsh k hlt
      have hin' := hin k hlt
      rw [← hsk] at hcell2 hc2'
      rw [hdg] at hcell1 hc' hcell2 hc2' hcell
      have hmk := make_arcs (Plain.deg T k) hr131
      have hst1 : ∀ ob, (wr.alloc ob).cell? ⟨w.heap.size, k, none⟩ = some (.slice none 0 0) := fun ob => by
        have := (hO.top.alloc ob).cell hlt
        simpa using this
      have hst2 : ∀ ob, (wr.alloc ob).frozen? ⟨w.heap.size, k, none⟩ = false := fun ob => (hO.top.alloc ob).frozen k
      have hI0 := binner_start hO
      have hb1 : b < w.heap.size := World.block_lt_of_cell? _ _ hcell
      have hb2 : b2 < w.heap.size := World.block_lt_of_cell? _ _ hcell2
      have HDONE : Hid (∀ wi, BInner w wi T K k (Plain.deg T k) → BOuter w wi T K (k + 1)) := fun wi h => binner_done h
      have HSTEP : Hid (∀ wi j, BInner w wi T K k j → BInner w (((wi.setCell ⟨w.heap.size + 1 + k, j * 3, none⟩ (.int .i64 (Plain.tgtOf T k j : Nat))).setCell ⟨w.heap.size + 1 + k, j * 3 + 1, none⟩ (.string (kindStr ((K.getD k []).getD j 0)))).setCell ⟨w.heap.size + 1 + k, j * 3 + 2, none⟩ (.int .i64 0)).drew T K k (j + 1)) := fun wi j h => binner_step h
      clear hc hc2 hn' hn2' hO hdg hsk hsh hrows hin
      generalize hdgv : Plain.deg T k = dg at *
      have HDG : Hid (Plain.deg T k = dg) := hdgv
      clear hdgv
      go_wp2
      clear hst1 hst2 hmk hsize hcell1
      go_loopw [16] (fun i wi => ∃ j : Nat, j ≤ dg ∧ i = .int .i64 j ∧ BInner w wi T K k j) (fun i _ => dg - (intOf i).toNat)
      case atStart => exact ⟨0, Nat.zero_le _, rfl, by simpa using hI0⟩
      case round =>
        obtain ⟨j, hj, rfl, hI⟩ := hrel
        clear hI0
        have g1 := cell_later hI.below hcell
        by_cases hjl : j < dg
        · obtain ⟨b', o', rfl, hcj⟩ := hc' j hjl
          obtain ⟨b2', o2', rfl, hcj2⟩ := hc2' j hjl
          have g2 := cell_later hI.below hcell2
          have g3 := cell_later hI.below hcj
          have g4 := cell_later hI.below hcj2
          have hb3 : b' < w.heap.size := World.block_lt_of_cell? _ _ hcj
          have hb4 : b2' < w.heap.size := World.block_lt_of_cell? _ _ hcj2
          have g5 : wr.cell? ⟨w.heap.size, k, none⟩ = some (.slice (some ⟨w.heap.size + 1 + k, 0, none⟩) dg dg) := by
            have := hI.top.cell hlt
            simpa [HDG.out] using this
          have hcur := hI.cur
          rw [HDG.out] at hcur
          have c0 : wr.cell? ⟨w.heap.size + 1 + k, j * 3, none⟩ = some (.int .i64 0) := by
            have := hcur.cell (i := j * 3) (by omega)
            simpa [zeroArc] using this
          have c1 : wr.cell? ⟨w.heap.size + 1 + k, j * 3 + 1, none⟩ = some (.string ⟨#[]⟩) := by
            have := hcur.cell (i := j * 3 + 1) (by omega)
            rw [if_neg (by omega)] at this
            have q : (j * 3 + 1) % 3 = 1 := by omega
            simpa [zeroArc, q] using this
          have c2 : wr.cell? ⟨w.heap.size + 1 + k, j * 3 + 2, none⟩ = some (.int .i64 0) := by
            have := hcur.cell (i := j * 3 + 2) (by omega)
            rw [if_neg (by omega)] at this
            have q : (j * 3 + 2) % 3 = 2 := by omega
            simpa [zeroArc, q] using this
          have f0 := hcur.frozen (j * 3)
          have f1 := hcur.frozen (j * 3 + 1)
          have f2 := hcur.frozen (j * 3 + 2)
          have hS := HSTEP.out wr j hI
          have ht := hin' j hjl
          rw [ht] at g3
          generalize (K.getD k []).getD j 0 = kd at *
          generalize Plain.tgtOf T k j = t at *
          have hjI : (j : Int) < (dg : Int) := by omega
          have e1 : ¬ b = w.heap.size + 1 + k := by omega
          have e2 : ¬ b2 = w.heap.size + 1 + k := by omega
          have e3 : ¬ b' = w.heap.size + 1 + k := by omega
          have e4 : ¬ b2' = w.heap.size + 1 + k := by omega
          have e5 : ¬ w.heap.size = w.heap.size + 1 + k := by omega
          clear hc' hc2' hcj hcj2 hcell hcell2 hI hcur ht hin'
          go_wp2
          go_region_held3 (fun w' => w'.cell? ⟨w.heap.size, k, none⟩ = some (.slice (some ⟨w.heap.size + 1 + k, 0, none⟩) dg dg) ∧ w'.cell? ⟨b, o + k, none⟩ = some (.slice (some ⟨b', o', none⟩) dg cap') ∧ w'.cell? ⟨b2, o2 + k, none⟩ = some (.slice (some ⟨b2', o2', none⟩) dg cap2') ∧ w'.cell? ⟨b', o' + j, none⟩ = some (.int .i64 (t : Int)) ∧ w'.cell? ⟨b2', o2' + j, none⟩ = some (.int .i64 kd)) (first | (go_keep; done) | exact ⟨(cell_set3 e5).trans g5, (cell_set3 e1).trans g1, (cell_set3 e2).trans g2, (cell_set3 e3).trans g3, (cell_set3 e4).trans g4⟩)
            ((go_at_call 23; refine (kind_any kd _).mono ?_; rintro e w5 ⟨rfl, rfl⟩))
          go_wp2
          go_roundw
          case rel => exact ⟨j + 1, by omega, by go_num, hS⟩
          case measure => simp [intOf]; omega
        · have hje : j = dg := by omega
          subst hje
          have HO := HDONE.out wr hI
          go_wp2
          go_roundw
          case rel => exact ⟨k + 1, by omega, by go_num, HO⟩
          case measure => simp [intOf]; omega
    · have hke : k = T.length := by omega
      subst hke
      obtain ⟨m, hm⟩ : ∃ m : Nat, m = 4 * T.length := ⟨_, rfl⟩
      have em : 4 * (T.length : Int) = (m : Int) := by omega
      have hm2 : m ≤ 262144 := by omega
      have hmk2 := run_make_row' (P := Try.prog) 27 3 (.int .i64 0) 8 Try.underlying27 Try.info3 rfl .i64 .i64 m (by omega) (by omega)
      have HM : Hid (m = 4 * T.length) := hm
      clear hm hc hc2
      generalize wr = w0 at *
      go_wp2
      clear hmk2 em
      go_loopw [18] (fun i wr => ∃ k : Nat, k ≤ m ∧ i = .int .i64 k ∧ Pars w0 wr m k) (fun i _ => m - (intOf i).toNat)
      case atStart => exact ⟨0, Nat.zero_le _, rfl, pars_start w0 m⟩
      case round =>
        obtain ⟨k, hk, rfl, hP⟩ := hrel
        by_cases hlt2 : k < m
        · have c1 := hP.row.cell hlt2
          rw [if_neg (Nat.lt_irrefl _)] at c1
          have f1 := hP.row.frozen k
          have HP := pars_step hP
          go_wp2
          go_roundw
          case rel => exact ⟨k + 1, by omega, by go_num, HP⟩
          case measure => simp [intOf]; omega
        · have hkm : k = m := by omega
          subst hkm
          have hsz := hP.size
          cases lim with
          | false =>
            go_wp2_with fail
            refine (call_free hO hP HM.out u v left hu hv hn HINR.out HRW.out hleft).mono ?_
            rintro e w9 ⟨hbel, bud, hbud, i, hns, ⟨q1, q2, q3, rfl⟩ | ⟨q1, wv, rfl, hW⟩⟩
            · have HA : Hid (ZZAns w w9 false T K u v left (.returned (.tuple #[.slice none 0 0, .bool false]))) := ⟨hbel, bud, hbud, i, hns, Or.inl ⟨q1, q2, q3, rfl⟩⟩
              clear hns q1 q2 q3 hbud hO hP
              go_wp2
              go_ret2
              exact HA.out
            · have HA : Hid (ZZAns w w9 false T K u v left (.returned (.tuple #[wv, .bool true]))) := ⟨hbel, bud, hbud, i, hns, Or.inr ⟨q1, wv, rfl, hW⟩⟩
              clear hns q1 hW hbud hO hP
              go_wp2
              go_ret2
              exact HA.out
          | true =>
            go_wp2_with fail
            refine (call_cut hO hP HM.out u v left hu hv hn HINR.out HRW.out hleft).mono ?_
            rintro e w9 ⟨hbel, bud, hbud, i, hns, ⟨q1, q2, q3, rfl⟩ | ⟨q1, wv, rfl, hW⟩⟩
            · have HA : Hid (ZZAns w w9 true T K u v left (.returned (.tuple #[.slice none 0 0, .bool false]))) := ⟨hbel, bud, hbud, i, hns, Or.inl ⟨q1, q2, q3, rfl⟩⟩
              clear hns q1 q2 q3 hbud hO hP
              go_wp2
              go_ret2
              exact HA.out
            · have HA : Hid (ZZAns w w9 true T K u v left (.returned (.tuple #[wv, .bool true]))) := ⟨hbel, bud, hbud, i, hns, Or.inr ⟨q1, wv, rfl, hW⟩⟩
              clear hns q1 hW hbud hO hP
              go_wp2
              go_ret2
              exact HA.out

end Go.Proofs.Qxb6600624a
