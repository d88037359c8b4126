import Derived.Test.Qxb6600624aBack
import Derived.BigQuiet
import Derived.Deep.RegionHeld3
namespace Go.Proofs.Qxb6600624a
open Go.RowKit

theorem info3i : (Try.prog.info? 3).map (fun i => (i.zero, i.size, i.bytes)) = some (some (.int .i64 0), 1, 8) := by kernel_rfl

set_option maxRecDepth 100000 in
set_option maxHeartbeats 4000000 in
theorem closing_any (sb gb ob pb : Nat) (bud : Option Nat) (T K : List (List Int)) (u v : Nat) (left : Int) (w : World)
  (hA : Arena w sb gb ob pb bud T K) (hp : w.rowIs pb 3 (4 * T.length) (fun _ => .int .i64 (-2))) (hb : BudAt w bud left) (hbn : ∀ b, bud = some b → b ≠ pb) (hu : u < T.length) (hv : v < T.length) (hn : T.length ≤ 65536)
  (hT : Plain.InR T T.length) (hrow : ∀ i, i < T.length → Plain.deg T i ≤ 131072) (hl : left ≤ 9223372036854775807) :
   Calls Try.prog 24 #[.pointer (some ⟨sb, 0, none⟩), .int .i64 u, .int .i64 v] w fun e w' => Found w w' pb bud ∧ Answer w' bud T K u (4 * u + 1) (4 * v + 2) left e := by
  have c4 := hA.s4
  have hf : 4 * v + 2 < 4 * T.length := by omega
  have ht : 4 * u + 1 < 4 * T.length := by omega
  have cp := hp.cell hf
  have fp := hp.frozen (4 * v + 2)
  have hpb := hp.lt
  have hsb : sb < w.heap.size := World.block_lt_of_cell? _ _ c4
  have ef : 2 * (2 * (v : Int) + 1) = ((4 * v + 2 : Nat) : Int) := by omega
  have et : 2 * (2 * (u : Int)) + 1 = ((4 * u + 1 : Nat) : Int) := by omega
  obtain ⟨i0, hi, hz0, hz1, hz2⟩ := info_parts info3i
  have hmf : ∀ (fn : Fn) (first cap : Array Value) (w : World), (Instr.makeFunc fn first cap).run Try.prog w = .ok (.func fn first cap) w := fun _ _ _ _ => rfl
  have hst := loop_start w pb T.length (4 * v + 2) bud left hp hb hbn
  go_enter_defers Try.func24, Try.ntmps24
  go_wp2
  go_loopw [12] (fun i wr => ∃ k : Nat, i = .int .i64 k ∧ Hid (∀ k', k' < k → ¬ Plain.stop (4 * u + 1) (Plain.bfs T K u (4 * u + 1) (4 * v + 2) k') k') ∧ LoopAt w wr pb bud T.length (Plain.bfs T K u (4 * u + 1) (4 * v + 2) k) (left - Plain.spent T K u (4 * u + 1) (4 * v + 2) k)) (fun i _ => 4 * T.length - (intOf i).toNat)
  case atStart =>
    refine ⟨0, rfl, fun k hk => absurd hk (Nat.not_lt_zero _), ?_⟩
    have := hst
    simp only [Plain.bfs, Plain.spent]
    simpa using this
  case round =>
    obtain ⟨k, rfl, hns, hL⟩ := hrel
    clear hst cp fp c4 ef et hp hb hmf
    obtain ⟨hG, hkq⟩ := Plain.bfs_good (K := K) (u := u) hT hf k hns.out
    obtain ⟨g, cap, hq⟩ := hL.queue
    have cq := hq.box.cell (Nat.zero_lt_one)
    rw [show w.heap.size + 2 = w.heap.size + 1 + 1 from rfl] at cq
    have cx := hL.pbox.cell (Nat.zero_lt_one)
    have ct := hL.par.cell ht
    have hA' := hA.keep (w' := wr) (fun k' hk' h1 h2 => hL.keep k' hk' h1 h2)
    have hbud := hL.bud
    have HNS : Hid (∀ k', k' < k → ¬ Plain.stop (4 * u + 1) (Plain.bfs T K u (4 * u + 1) (4 * v + 2) k') k') := hns.out
    clear hns
    have HSP : Hid (Plain.spent T K u (4 * u + 1) (4 * v + 2) (k + 1) = Plain.spent T K u (4 * u + 1) (4 * v + 2) k + Plain.deg T ((Plain.bfs T K u (4 * u + 1) (4 * v + 2) k).q.getD k 0 / 4)) := rfl
    have HB1 : Hid (Plain.bfs T K u (4 * u + 1) (4 * v + 2) (k + 1) = Plain.scan T K u (4 * u + 1) ((Plain.bfs T K u (4 * u + 1) (4 * v + 2) k).q.getD k 0) (Plain.deg T ((Plain.bfs T K u (4 * u + 1) (4 * v + 2) k).q.getD k 0 / 4)) (Plain.bfs T K u (4 * u + 1) (4 * v + 2) k)) := rfl
    have hkl : k < 1048576 := by have := hG.len; omega
    have hql : (Plain.bfs T K u (4 * u + 1) (4 * v + 2) k).q.length ≤ 1048576 := by have := hG.len; omega
    have hqk : ∀ h : k < (Plain.bfs T K u (4 * u + 1) (4 * v + 2) k).q.length, _ := fun h => hq.cell h
    generalize hs : Plain.bfs T K u (4 * u + 1) (4 * v + 2) k = s at *
    have HS : Hid (Plain.bfs T K u (4 * u + 1) (4 * v + 2) k = s) := hs
    clear hs
    generalize hsp : Plain.spent T K u (4 * u + 1) (4 * v + 2) k = sp at *
    have HSP0 : Hid (Plain.spent T K u (4 * u + 1) (4 * v + 2) k = sp) := hsp
    clear hsp
    by_cases ht2 : s.par (4 * u + 1) = -2
    · have ht3 : (s.par (4 * u + 1) == -2) = true := by rw [ht2]; rfl
      have HT2 : Hid (s.par (4 * u + 1) = -2) := ht2
      by_cases hk : k < s.q.length
      · have hxq : s.q[k]? = some (s.q.getD k 0) := by
          rw [List.getD, List.getElem?_eq_getElem hk]; rfl
        have hstop : Hid (¬ Plain.stop (4 * u + 1) s k) := fun h => h ⟨hk, HT2.out⟩
        have cqk := hqk hk
        have hk4 : k < 4 * T.length := by have := hG.len; omega
        have hx4 := hG.lt _ (List.mem_of_getElem? hxq)
        generalize hx : s.q.getD k 0 = x at *
        have HX : Hid (s.q.getD k 0 = x ∧ s.q[k]? = some x) := ⟨hx, hxq⟩
        clear hx hxq hqk
        obtain ⟨nd, hnd⟩ : ∃ nd : Nat, nd = x / 4 := ⟨_, rfl⟩
        have end1 : (x : Int) / 4 = (nd : Int) := by omega
        have hnd4 : nd < T.length := by omega
        have hndI : (nd : Int) < (T.length : Int) := by omega
        have end2 : (x : Int).tdiv 4 = (nd : Int) := by rw [Int.tdiv_eq_ediv_of_nonneg (by omega)]; exact end1
        have end3 : IntKind.i64.wrap (nd : Int) = (nd : Int) := by rw [IntKind.wrap_i64]; omega
        obtain ⟨rb, hrn, hr1w, hr2⟩ := hA.rows nd hnd4
        have hr1 := hL.old hr1w hA.one
        clear hr1w
        have hdeg := hrow nd hnd4
        rw [← hnd] at HSP HB1
        generalize hdg : Plain.deg T nd = dg at *
        have HD : Hid (nd = x / 4 ∧ Plain.deg T nd = dg) := ⟨hnd, hdg⟩
        clear hnd hdg
        have a0 := hA'.s0
        have a3 := hA'.s3
        have a1 := hA'.g1
        generalize s.par (4 * u + 1) = pt at *
        clear ht2
        have HR2 : Hid (∀ j, j < dg → w.cell? ⟨rb, j * 3, none⟩ = some (.int .i64 (Plain.tgtOf T nd j)) ∧ w.cell? ⟨rb, j * 3 + 1, none⟩ = some (.string (kindStr (Plain.kindOf K nd j))) ∧ w.cell? ⟨rb, j * 3 + 2, none⟩ = some (.int .i64 0)) := hr2
        clear hr2
        have hsn := hA.sne.2
        have hgn := hA.gne.2
        have hon := hA.one.2
        by_cases hpay : ∃ b, bud = some b ∧ left - (sp : Int) < dg
        · obtain ⟨b, rfl, hlt⟩ := hpay
          generalize hbp : ((some b).map fun b => (⟨b, 0, none⟩ : Addr)) = bp at *
          go_wp2
          go_region_held3 (fun w' => w'.cell? ⟨sb, 3, none⟩ = some (.pointer bp) ∧ w'.cell? ⟨sb, 0, none⟩ = some (.pointer (some ⟨gb, 0, none⟩)) ∧ w'.cell? ⟨gb, 1, none⟩ = some (.slice (some ⟨ob, 0, none⟩) T.length T.length) ∧ w'.cell? ⟨ob, nd, none⟩ = some (.slice (some ⟨rb, 0, none⟩) dg dg)) (go_keep)
            ((go_at_call 28; rw [← hbp]; refine (spend_no b (left - sp) dg _ (by exact hbud) hlt).mono ?_; rintro e w5 ⟨rfl, hpd⟩; have k1 := (hpd.cell (o := 3) hsn).trans a3; have k2 := (hpd.cell (o := 0) hsn).trans a0; have k3 := (hpd.cell (o := 1) hgn).trans a1; have k4 := (hpd.cell (o := nd) hon).trans hr1))
          have hL5 := (hL.below ((Below.refl _ _).drew)).paid hpd
          go_wp2
          refine leaves_cons (f := 27) (args := #[.pointer (some ⟨w.heap.size + 1 + 1, 0, none⟩), .pointer (some ⟨w.heap.size, 0, none⟩)]) (by simp) (by simp [go_sem]) ?_
          refine (closure_at hL5 hG hn .returning).mono ?_
          rintro e u' w7 ⟨rfl, rfl, ho⟩
          exact ⟨_, results_tmp2 rfl _ _ _, hL5.found ho, k, HNS.out, Or.inl ⟨by simp, by rw [HS.out]; exact hstop.out, by rw [HSP.out]; omega, rfl⟩⟩
        · have hpay' : ∀ b, bud = some b → (dg : Int) ≤ left - (sp : Int) := fun b e => by
            exact Int.not_lt.1 fun h => hpay ⟨b, e, h⟩
          clear hpay
          generalize hbp : (bud.map fun b => (⟨b, 0, none⟩ : Addr)) = bp at *
          go_wp2
          go_region_held3 (fun w' => w'.cell? ⟨sb, 3, none⟩ = some (.pointer bp) ∧ w'.cell? ⟨sb, 0, none⟩ = some (.pointer (some ⟨gb, 0, none⟩)) ∧ w'.cell? ⟨gb, 1, none⟩ = some (.slice (some ⟨ob, 0, none⟩) T.length T.length) ∧ w'.cell? ⟨ob, nd, none⟩ = some (.slice (some ⟨rb, 0, none⟩) dg dg)) (go_keep)
            ((go_at_call 28; rw [← hbp]; refine (spend_yes bud (left - sp) dg _ (by exact hbud) hpay' (by omega) (by omega)).mono ?_; rintro e w5 ⟨rfl, hpd⟩; have k1 := (hpd.cell (o := 3) hsn).trans a3; have k2 := (hpd.cell (o := 0) hsn).trans a0; have k3 := (hpd.cell (o := 1) hgn).trans a1; have k4 := (hpd.cell (o := nd) hon).trans hr1))
          have hL5 := (hL.below ((Below.refl _ _).drew)).paid hpd
          clear hpd k1 k2 k3 k4 a0 a1 a3 hr1 hbud cq cqk ct cx hA' hbp hpay' hq
          go_wp2
          go_loopw [87] (fun i wi => ∃ j : Nat, j ≤ dg ∧ i = .int .i64 j ∧ LoopAt w wi pb bud T.length (Plain.scan T K u (4 * u + 1) x j s) (left - sp - dg)) (fun i _ => dg - (intOf i).toNat)
          case atStart => exact ⟨0, Nat.zero_le _, rfl, hL5⟩
          case round =>
            obtain ⟨j, hj, rfl, hI⟩ := hrel
            clear hL5
            by_cases hjl : j < dg
            · obtain ⟨hG1, hq1x, _, _⟩ := Plain.scan_good (K := K) (u := u) (tgt := 4 * u + 1) hT hG HX.out.2 j (by rw [← HD.out.1, HD.out.2]; omega)
              have r0 := hI.old (HR2.out j hjl).1 hrn
              have r1 := hI.old (HR2.out j hjl).2.1 hrn
              have r2 := hI.old (HR2.out j hjl).2.2 hrn
              have htn : Plain.tgtOf T nd j < T.length := hT nd hnd4 j (by rw [HD.out.2]; exact hjl)
              have HSC : Hid (Plain.scan T K u (4 * u + 1) x (j + 1) s = Plain.step u (4 * u + 1) x (Plain.tgtOf T nd j) (Plain.kindOf K nd j) (Plain.scan T K u (4 * u + 1) x j s)) := by
                show _ = _
                rw [HD.out.1]; rfl
              generalize Plain.tgtOf T nd j = t at *
              generalize Plain.kindOf K nd j = kd at *
              generalize Plain.scan T K u (4 * u + 1) x j s = s1 at *
              obtain ⟨sx, hsx⟩ : ∃ sx : Nat, sx = x / 2 := ⟨_, rfl⟩
              obtain ⟨rx, hrx⟩ : ∃ rx : Nat, rx = x % 2 := ⟨_, rfl⟩
              have d2 : (x : Int) / 2 = (sx : Int) := by omega
              have m2 : (x : Int) % 2 = (rx : Int) := by omega
              have hsxl : sx ≤ 1048576 := by omega
              have HSX : Hid (sx = x / 2 ∧ rx = x % 2) := ⟨hsx, hrx⟩
              have hrxl : rx ≤ 1 := by omega
              have hjI : (j : Int) < (dg : Int) := by omega
              clear hsx hrx
              cases hnx : Plain.nextSt (x / 2) t kd with
              | none =>
                have hst := step_none (u := u) (tgt := 4 * u + 1) (s := s1) hnx
                rw [hst] at HSC
                have hni : nextInt sx t kd = -1 := by rw [HSX.out.1]; simp [nextInt, hnx]
                have HNI : Hid (nextInt sx t kd = -1) := hni
                clear hnx hst hni
                go_wp2_with ((go_at_call 29; refine (next_any sx t kd _ _ (by omega) (by omega)).mono ?_; rw [HNI.out]; rintro e w6 ⟨rfl, hb6⟩))
                go_roundw
                case rel => exact ⟨j + 1, by omega, by go_num, by rw [HSC.out]; exact hI.below (((Below.refl _ _).alloc (Nat.le_refl _) _).trans (hb6.mono (by simp)))⟩
                case measure => simp [intOf]; omega
              | some ns =>
                have hns2 := Plain.nextSt_lt hnx htn
                have hni : nextInt sx t kd = (ns : Int) := by rw [HSX.out.1]; simp [nextInt, hnx]
                have HNI : Hid (nextInt sx t kd = (ns : Int)) := hni
                clear hni
                have n2 : (ns : Int) / 2 = (t : Int) := by omega
                obtain ⟨y, hy⟩ : ∃ y : Nat, y = if kd = 1 then 2 * ns + 1 else 2 * ns + x % 2 := ⟨_, rfl⟩
                have hy4 : y < 4 * T.length := by
                  split at hy <;> omega
                obtain ⟨bb, hbb⟩ : ∃ bb : Bool, bb = decide (kd = 1) := ⟨_, rfl⟩
                have hks1 : ((kindStr kd).toList == [114, 119]) = bb := by rw [hbb]; exact kindStr_rw2 kd
                have hnsl : ns ≤ 1048576 := by omega
                have HNX : Hid (Plain.nextSt (x / 2) t kd = some ns) := hnx
                have HY : Hid (y = if kd = 1 then 2 * ns + 1 else 2 * ns + x % 2) := hy
                have HNS2 : Hid (ns / 2 = t) := hns2.2
                clear hnx hns2
                have LL : Hid (∀ w6, Below (wr.alloc (.cells #[.int .i64 t, .string (kindStr kd), .int .i64 0] 45)).heap.size (wr.alloc (.cells #[.int .i64 t, .string (kindStr kd), .int .i64 0] 45)) w6 → LoopAt w w6 pb bud T.length s1 (left - sp - dg)) :=
                  fun w6 hb6 => hI.below (((Below.refl _ _).alloc (Nat.le_refl _) _).trans (hb6.mono (by simp)))
                have hql1 : s1.q.length ≤ 1048576 := by have := hG1.len; omega
                by_cases hkd : kd = 1
                · have hyv : 2 * (ns : Int) + 1 = (y : Int) := by rw [if_pos hkd] at hy; omega
                  have hbt : bb = true := by rw [hbb]; simp [hkd]
                  subst hbt
                  clear hy hbb hkd
                  by_cases htu : t = u
                  · have tb : ((t : Int) != (u : Int)) = false := by rw [htu]; simp
                    have HTU : Hid (t = u) := htu
                    clear htu
                    by_cases hyt : y = 4 * u + 1
                    · subst hyt
                      have yb : (4 * (u : Int) + 1 == 4 * (u : Int) + 1) = true := by simp
                      by_cases hpy : s1.par (4 * u + 1) = -2
                      · have HST : Hid (Plain.step u (4 * u + 1) x t kd s1 = ⟨Plain.upd s1.par (4 * u + 1) x, s1.q ++ [4 * u + 1]⟩) := step_some HNX.out HY.out (Or.inr rfl) hpy
                        have pb1 : (s1.par (4 * u + 1) == -2) = true := by rw [hpy]; rfl
                        clear hpy
                        go_wp2_with (first | (go_at_call 29; refine (next_any sx t kd _ _ (by omega) (by omega)).mono ?_; rw [HNI.out]; rintro e w6 ⟨rfl, hb6⟩; have kb := (hb6.cell (p := ⟨wr.heap.size, 1, none⟩) (by simp)).trans (box_cell _ _ _ _ _); have L6 := LL.out _ hb6; have kp := L6.par.cell hy4; have kx := L6.pbox.cell Nat.zero_lt_one; have kf := L6.par.frozen (4 * u + 1); have L7 := L6.setPar (4 * u + 1) (x : Int); have hqq := L7.queue; obtain ⟨g7, cap7, hq7⟩ := hqq; have kq7 := hq7.box.cell Nat.zero_lt_one; have hz7 : w.heap.size + 3 ≤ w6.heap.size := L6.size) | (at_builtin; refine wpList_append_own _ rfl (.tmp 128) (.tmp 130) 27 rfl (w.heap.size + 1) 3 i0 (.int .i64 0) 1 8 Try.underlying27 hi hz0 hz1 hz2 rfl (by decide) _ _ _ rfl (hq7.own.alloc _) ⟨w6.heap.size, 0, none⟩ 1 1 [.int .i64 (4 * (u : Int) + 1)] rfl rfl (news_at _ _ _ _ (by simp)) (one_int _ _) (by unfold maxLen; omega) (by omega) (by simp; omega) ?_; intro v8 w8 hown8 hgrow8 hiff8; have hnn8 : v8 ≠ .slice none 0 0 := fun e => absurd (hiff8.1 e).2 (by omega); have hex8 := own_slice hown8 hnn8; obtain ⟨g8, cap8, hv8⟩ := hex8; have L8 := L7.push2 hq7 (4 * u + 1) v8 _ (by simpa using hown8) hgrow8 hnn8; have k8 := (hq7.box8 hgrow8).1; have f8 := (hq7.box8 hgrow8).2; rw [hv8] at L8 ⊢; clear hown8 hgrow8 hiff8 hnn8 hv8))
                        go_roundw
                        case rel => exact ⟨j + 1, by omega, by go_num, by rw [HSC.out, HST.out]; exact L8⟩
                        case measure => simp [intOf]; omega
                      · have HST : Hid (Plain.step u (4 * u + 1) x t kd s1 = s1) := step_skip HNX.out HY.out (fun h => hpy h.2)
                        have pb1 : (s1.par (4 * u + 1) == -2) = false := by simpa using hpy
                        clear hpy
                        rw [HST.out] at HSC
                        go_wp2_with ((go_at_call 29; refine (next_any sx t kd _ _ (by omega) (by omega)).mono ?_; rw [HNI.out]; rintro e w6 ⟨rfl, hb6⟩; have kb := (hb6.cell (p := ⟨wr.heap.size, 1, none⟩) (by simp)).trans (box_cell _ _ _ _ _); have L6 := LL.out _ hb6; have kp := L6.par.cell hy4; have kx := L6.pbox.cell Nat.zero_lt_one))
                        go_roundw
                        case rel => exact ⟨j + 1, by omega, by go_num, by rw [HSC.out]; exact L6⟩
                        case measure => simp [intOf]; omega
                    · have HST : Hid (Plain.step u (4 * u + 1) x t kd s1 = s1) := step_skip HNX.out HY.out (fun h => h.1.elim (fun h => h (HNS2.out.trans HTU.out)) hyt)
                      have yb : ((y : Int) == 4 * (u : Int) + 1) = false := by rw [beq_eq_false_iff_ne]; omega
                      clear hyt
                      rw [HST.out] at HSC
                      go_wp2_with ((go_at_call 29; refine (next_any sx t kd _ _ (by omega) (by omega)).mono ?_; rw [HNI.out]; rintro e w6 ⟨rfl, hb6⟩; have kb := (hb6.cell (p := ⟨wr.heap.size, 1, none⟩) (by simp)).trans (box_cell _ _ _ _ _); have L6 := LL.out _ hb6; have kp := L6.par.cell hy4; have kx := L6.pbox.cell Nat.zero_lt_one))
                      go_roundw
                      case rel => exact ⟨j + 1, by omega, by go_num, by rw [HSC.out]; exact L6⟩
                      case measure => simp [intOf]; omega
                  · have tb : ((t : Int) != (u : Int)) = true := by rw [bne_iff_ne]; omega
                    by_cases hpy : s1.par y = -2
                    · have HST : Hid (Plain.step u (4 * u + 1) x t kd s1 = ⟨Plain.upd s1.par y x, s1.q ++ [y]⟩) := step_some HNX.out HY.out (Or.inl (fun h => htu (HNS2.out.symm.trans h))) hpy
                      have pb1 : (s1.par y == -2) = true := by rw [hpy]; rfl
                      clear hpy htu
                      go_wp2_with (first | (go_at_call 29; refine (next_any sx t kd _ _ (by omega) (by omega)).mono ?_; rw [HNI.out]; rintro e w6 ⟨rfl, hb6⟩; have kb := (hb6.cell (p := ⟨wr.heap.size, 1, none⟩) (by simp)).trans (box_cell _ _ _ _ _); have L6 := LL.out _ hb6; have kp := L6.par.cell hy4; have kx := L6.pbox.cell Nat.zero_lt_one; have kf := L6.par.frozen (y); have L7 := L6.setPar (y) (x : Int); have hqq := L7.queue; obtain ⟨g7, cap7, hq7⟩ := hqq; have kq7 := hq7.box.cell Nat.zero_lt_one; have hz7 : w.heap.size + 3 ≤ w6.heap.size := L6.size) | (at_builtin; refine wpList_append_own _ rfl (.tmp 128) (.tmp 130) 27 rfl (w.heap.size + 1) 3 i0 (.int .i64 0) 1 8 Try.underlying27 hi hz0 hz1 hz2 rfl (by decide) _ _ _ rfl (hq7.own.alloc _) ⟨w6.heap.size, 0, none⟩ 1 1 [.int .i64 ((y : Int))] rfl rfl (news_at _ _ _ _ (by simp)) (one_int _ _) (by unfold maxLen; omega) (by omega) (by simp; omega) ?_; intro v8 w8 hown8 hgrow8 hiff8; have hnn8 : v8 ≠ .slice none 0 0 := fun e => absurd (hiff8.1 e).2 (by omega); have hex8 := own_slice hown8 hnn8; obtain ⟨g8, cap8, hv8⟩ := hex8; have L8 := L7.push2 hq7 (y) v8 _ (by simpa using hown8) hgrow8 hnn8; have k8 := (hq7.box8 hgrow8).1; have f8 := (hq7.box8 hgrow8).2; rw [hv8] at L8 ⊢; clear hown8 hgrow8 hiff8 hnn8 hv8))
                      go_roundw
                      case rel => exact ⟨j + 1, by omega, by go_num, by rw [HSC.out, HST.out]; exact L8⟩
                      case measure => simp [intOf]; omega
                    · have HST : Hid (Plain.step u (4 * u + 1) x t kd s1 = s1) := step_skip HNX.out HY.out (fun h => hpy h.2)
                      have pb1 : (s1.par y == -2) = false := by simpa using hpy
                      clear hpy htu
                      rw [HST.out] at HSC
                      go_wp2_with ((go_at_call 29; refine (next_any sx t kd _ _ (by omega) (by omega)).mono ?_; rw [HNI.out]; rintro e w6 ⟨rfl, hb6⟩; have kb := (hb6.cell (p := ⟨wr.heap.size, 1, none⟩) (by simp)).trans (box_cell _ _ _ _ _); have L6 := LL.out _ hb6; have kp := L6.par.cell hy4; have kx := L6.pbox.cell Nat.zero_lt_one))
                      go_roundw
                      case rel => exact ⟨j + 1, by omega, by go_num, by rw [HSC.out]; exact L6⟩
                      case measure => simp [intOf]; omega
                · have hyv : 2 * (ns : Int) + (rx : Int) = (y : Int) := by rw [if_neg hkd] at hy; have := HSX.out.2; omega
                  have hbt : bb = false := by rw [hbb]; simp [hkd]
                  subst hbt
                  clear hy hbb hkd
                  by_cases htu : t = u
                  · have tb : ((t : Int) != (u : Int)) = false := by rw [htu]; simp
                    have HTU : Hid (t = u) := htu
                    clear htu
                    by_cases hyt : y = 4 * u + 1
                    · subst hyt
                      have yb : (4 * (u : Int) + 1 == 4 * (u : Int) + 1) = true := by simp
                      by_cases hpy : s1.par (4 * u + 1) = -2
                      · have HST : Hid (Plain.step u (4 * u + 1) x t kd s1 = ⟨Plain.upd s1.par (4 * u + 1) x, s1.q ++ [4 * u + 1]⟩) := step_some HNX.out HY.out (Or.inr rfl) hpy
                        have pb1 : (s1.par (4 * u + 1) == -2) = true := by rw [hpy]; rfl
                        clear hpy
                        go_wp2_with (first | (go_at_call 29; refine (next_any sx t kd _ _ (by omega) (by omega)).mono ?_; rw [HNI.out]; rintro e w6 ⟨rfl, hb6⟩; have kb := (hb6.cell (p := ⟨wr.heap.size, 1, none⟩) (by simp)).trans (box_cell _ _ _ _ _); have L6 := LL.out _ hb6; have kp := L6.par.cell hy4; have kx := L6.pbox.cell Nat.zero_lt_one; have kf := L6.par.frozen (4 * u + 1); have L7 := L6.setPar (4 * u + 1) (x : Int); have hqq := L7.queue; obtain ⟨g7, cap7, hq7⟩ := hqq; have kq7 := hq7.box.cell Nat.zero_lt_one; have hz7 : w.heap.size + 3 ≤ w6.heap.size := L6.size) | (at_builtin; refine wpList_append_own _ rfl (.tmp 128) (.tmp 130) 27 rfl (w.heap.size + 1) 3 i0 (.int .i64 0) 1 8 Try.underlying27 hi hz0 hz1 hz2 rfl (by decide) _ _ _ rfl (hq7.own.alloc _) ⟨w6.heap.size, 0, none⟩ 1 1 [.int .i64 (4 * (u : Int) + 1)] rfl rfl (news_at _ _ _ _ (by simp)) (one_int _ _) (by unfold maxLen; omega) (by omega) (by simp; omega) ?_; intro v8 w8 hown8 hgrow8 hiff8; have hnn8 : v8 ≠ .slice none 0 0 := fun e => absurd (hiff8.1 e).2 (by omega); have hex8 := own_slice hown8 hnn8; obtain ⟨g8, cap8, hv8⟩ := hex8; have L8 := L7.push2 hq7 (4 * u + 1) v8 _ (by simpa using hown8) hgrow8 hnn8; have k8 := (hq7.box8 hgrow8).1; have f8 := (hq7.box8 hgrow8).2; rw [hv8] at L8 ⊢; clear hown8 hgrow8 hiff8 hnn8 hv8))
                        go_roundw
                        case rel => exact ⟨j + 1, by omega, by go_num, by rw [HSC.out, HST.out]; exact L8⟩
                        case measure => simp [intOf]; omega
                      · have HST : Hid (Plain.step u (4 * u + 1) x t kd s1 = s1) := step_skip HNX.out HY.out (fun h => hpy h.2)
                        have pb1 : (s1.par (4 * u + 1) == -2) = false := by simpa using hpy
                        clear hpy
                        rw [HST.out] at HSC
                        go_wp2_with ((go_at_call 29; refine (next_any sx t kd _ _ (by omega) (by omega)).mono ?_; rw [HNI.out]; rintro e w6 ⟨rfl, hb6⟩; have kb := (hb6.cell (p := ⟨wr.heap.size, 1, none⟩) (by simp)).trans (box_cell _ _ _ _ _); have L6 := LL.out _ hb6; have kp := L6.par.cell hy4; have kx := L6.pbox.cell Nat.zero_lt_one))
                        go_roundw
                        case rel => exact ⟨j + 1, by omega, by go_num, by rw [HSC.out]; exact L6⟩
                        case measure => simp [intOf]; omega
                    · have HST : Hid (Plain.step u (4 * u + 1) x t kd s1 = s1) := step_skip HNX.out HY.out (fun h => h.1.elim (fun h => h (HNS2.out.trans HTU.out)) hyt)
                      have yb : ((y : Int) == 4 * (u : Int) + 1) = false := by rw [beq_eq_false_iff_ne]; omega
                      clear hyt
                      rw [HST.out] at HSC
                      go_wp2_with ((go_at_call 29; refine (next_any sx t kd _ _ (by omega) (by omega)).mono ?_; rw [HNI.out]; rintro e w6 ⟨rfl, hb6⟩; have kb := (hb6.cell (p := ⟨wr.heap.size, 1, none⟩) (by simp)).trans (box_cell _ _ _ _ _); have L6 := LL.out _ hb6; have kp := L6.par.cell hy4; have kx := L6.pbox.cell Nat.zero_lt_one))
                      go_roundw
                      case rel => exact ⟨j + 1, by omega, by go_num, by rw [HSC.out]; exact L6⟩
                      case measure => simp [intOf]; omega
                  · have tb : ((t : Int) != (u : Int)) = true := by rw [bne_iff_ne]; omega
                    by_cases hpy : s1.par y = -2
                    · have HST : Hid (Plain.step u (4 * u + 1) x t kd s1 = ⟨Plain.upd s1.par y x, s1.q ++ [y]⟩) := step_some HNX.out HY.out (Or.inl (fun h => htu (HNS2.out.symm.trans h))) hpy
                      have pb1 : (s1.par y == -2) = true := by rw [hpy]; rfl
                      clear hpy htu
                      go_wp2_with (first | (go_at_call 29; refine (next_any sx t kd _ _ (by omega) (by omega)).mono ?_; rw [HNI.out]; rintro e w6 ⟨rfl, hb6⟩; have kb := (hb6.cell (p := ⟨wr.heap.size, 1, none⟩) (by simp)).trans (box_cell _ _ _ _ _); have L6 := LL.out _ hb6; have kp := L6.par.cell hy4; have kx := L6.pbox.cell Nat.zero_lt_one; have kf := L6.par.frozen (y); have L7 := L6.setPar (y) (x : Int); have hqq := L7.queue; obtain ⟨g7, cap7, hq7⟩ := hqq; have kq7 := hq7.box.cell Nat.zero_lt_one; have hz7 : w.heap.size + 3 ≤ w6.heap.size := L6.size) | (at_builtin; refine wpList_append_own _ rfl (.tmp 128) (.tmp 130) 27 rfl (w.heap.size + 1) 3 i0 (.int .i64 0) 1 8 Try.underlying27 hi hz0 hz1 hz2 rfl (by decide) _ _ _ rfl (hq7.own.alloc _) ⟨w6.heap.size, 0, none⟩ 1 1 [.int .i64 ((y : Int))] rfl rfl (news_at _ _ _ _ (by simp)) (one_int _ _) (by unfold maxLen; omega) (by omega) (by simp; omega) ?_; intro v8 w8 hown8 hgrow8 hiff8; have hnn8 : v8 ≠ .slice none 0 0 := fun e => absurd (hiff8.1 e).2 (by omega); have hex8 := own_slice hown8 hnn8; obtain ⟨g8, cap8, hv8⟩ := hex8; have L8 := L7.push2 hq7 (y) v8 _ (by simpa using hown8) hgrow8 hnn8; have k8 := (hq7.box8 hgrow8).1; have f8 := (hq7.box8 hgrow8).2; rw [hv8] at L8 ⊢; clear hown8 hgrow8 hiff8 hnn8 hv8))
                      go_roundw
                      case rel => exact ⟨j + 1, by omega, by go_num, by rw [HSC.out, HST.out]; exact L8⟩
                      case measure => simp [intOf]; omega
                    · have HST : Hid (Plain.step u (4 * u + 1) x t kd s1 = s1) := step_skip HNX.out HY.out (fun h => hpy h.2)
                      have pb1 : (s1.par y == -2) = false := by simpa using hpy
                      clear hpy htu
                      rw [HST.out] at HSC
                      go_wp2_with ((go_at_call 29; refine (next_any sx t kd _ _ (by omega) (by omega)).mono ?_; rw [HNI.out]; rintro e w6 ⟨rfl, hb6⟩; have kb := (hb6.cell (p := ⟨wr.heap.size, 1, none⟩) (by simp)).trans (box_cell _ _ _ _ _); have L6 := LL.out _ hb6; have kp := L6.par.cell hy4; have kx := L6.pbox.cell Nat.zero_lt_one))
                      go_roundw
                      case rel => exact ⟨j + 1, by omega, by go_num, by rw [HSC.out]; exact L6⟩
                      case measure => simp [intOf]; omega
            · have hje : j = dg := by omega
              subst hje
              go_wp2
              go_roundw
              case rel =>
                refine ⟨k + 1, by go_num, fun k' hk' => ?_, ?_⟩
                · rcases Nat.lt_succ_iff_lt_or_eq.1 hk' with h | h
                  · exact HNS.out k' h
                  · rw [h, HS.out]; exact hstop.out
                · rw [HB1.out, HSP.out]
                  have e : left - ((sp + j : Nat) : Int) = left - sp - j := by omega
                  rw [e]; exact hI
              case measure => simp [intOf]; omega
      · have hstop : Hid (Plain.stop (4 * u + 1) s k) := fun h => hk h.1
        go_wp2
        refine leaves_cons (f := 27) (args := #[.pointer (some ⟨w.heap.size + 1 + 1, 0, none⟩), .pointer (some ⟨w.heap.size, 0, none⟩)]) (by simp) (by simp [go_sem]) ?_
        refine (closure_at hL hG hn .returning).mono ?_
        rintro e u' w7 ⟨rfl, rfl, ho⟩
        refine ⟨_, results_tmp2 rfl _ _ _, hL.found ho, k, HNS.out, Or.inr ⟨by rw [HS.out]; exact hstop.out, _, rfl, Or.inl ⟨by rw [HS.out]; exact HT2.out, rfl⟩⟩⟩
    · have ht3 : (s.par (4 * u + 1) == -2) = false := by simpa using ht2
      have HT2 : Hid (s.par (4 * u + 1) ≠ -2) := ht2
      have hstop : Hid (Plain.stop (4 * u + 1) s k) := fun h => HT2.out h.2
      have hC := chase_start hG wr (u : Int) (4 * u + 1) ht2
      have HQL := hG.len
      have hpr : ∀ y, y < 4 * T.length → wr.cell? ⟨pb, y, none⟩ = some (.int .i64 (s.par y)) := fun y hy => hL.par.cell hy
      have HPR : Hid (∀ y, y < 4 * T.length → wr.cell? ⟨pb, y, none⟩ = some (.int .i64 (s.par y))) := hpr
      have hsz : pb < wr.heap.size ∧ w.heap.size < wr.heap.size := ⟨by have := hL.size; omega, by have := hL.size; omega⟩
      have hsz1 := hsz.1
      have hsz2 := hsz.2
      clear hpr hqk ht2 hsz hq hA' hbud
      generalize wr = w2 at *
      by_cases hk : k < s.q.length
      all_goals (
        go_wp2
        clear cq ct
        go_loopg [6, 18] (s.q.length + 1) (fun f v x wl => ∃ z : Int, x = .int .i64 z ∧ Chasing w2 wl (u : Int) (4 * u + 1) s f v z)
        case atStart => exact ⟨_, rfl, hC⟩
        case round =>
          clear hC
          obtain ⟨z, rfl, hC⟩ := hrel
          obtain ⟨xs, hown, hxs, hlen⟩ := hC.own
          have hnn := hC.nn
          have hat := hC.at_
          have hbel := hC.below
          have HC : Hid (Below w2.heap.size w2 wr) := hbel
          have cx1 := cell_later hbel cx
          have hbsz := hbel.size
          clear hC hbel
          rcases hat with hz | ⟨m, y, hm, hqm, hz⟩
          · subst hz
            rw [chase_done, List.append_nil] at hxs
            have hex := own_slice hown hnn
            obtain ⟨gw, capw, hv⟩ := hex
            subst hv
            have hglo := (hown.lt gw rfl).1
            have hpos : 0 < xs.length := by rw [hxs]; simp [Plain.back]
            obtain ⟨jl, hjl⟩ : ∃ jl : Nat, jl = xs.length - 1 := ⟨_, rfl⟩
            have ejl : (xs.length : Int) - 1 = (jl : Int) := by omega
            have hTu := turning_start HC.out hglo hown hpos
            have HXS : Hid (xs = Plain.back (u : Int) (4 * u + 1) s) := hxs
            have HJL : Hid (jl = xs.length - 1) := hjl
            have hxl : xs.length ≤ 1048576 := by omega
            clear hxs hjl hown hnn hlen
            go_wp2
            clear ejl
            go_loopg [19, 20] xs.length (fun f i j wl => ∃ (i' j' : Nat) (l : List Int), i = .int .i64 i' ∧ j = .int .i64 j' ∧ Turning w2 wl xs gw capw f i' j' l ∧ i' ≤ xs.length)
            case atStart => exact ⟨1, jl, xs, rfl, rfl, by rw [HJL.out]; exact hTu, by omega⟩
            case round =>
              obtain ⟨i', j', l, rfl, rfl, hR, hil⟩ := hrel
              clear hTu
              have hjlt := hR.jlt
              by_cases hij : i' < j'
              · have hijI : (i' : Int) < (j' : Int) := by omega
                have ci := (hR.cell (k := i') (by omega)).1
                have fi := (hR.cell (k := i') (by omega)).2
                have cj := (hR.cell (k := j') (by omega)).1
                have fj := (hR.cell (k := j') (by omega)).2
                obtain ⟨f', hf'⟩ : ∃ f', gk = f' + 1 := ⟨gk - 1, by have := hR.fuel; omega⟩
                have HF : Hid (gk = f' + 1) := hf'
                have S1 : Hid (Turning w2 _ xs gw capw f' (i' + 1) (j' - 1) (Plain.swap l i' j')) := turning_step1 (by rw [← hf']; exact hR) hij
                have S2 : Hid (Turning w2 _ xs gw capw f' (i' + 1) (j' - 1) (Plain.swap l i' j')) := turning_step2 (by rw [← hf']; exact hR) hij
                obtain ⟨jm, hjm⟩ : ∃ jm : Nat, jm = j' - 1 := ⟨_, rfl⟩
                have ejm : (j' : Int) - 1 = (jm : Int) := by omega
                rw [← hjm] at S1 S2
                clear hjm hf' hR
                generalize l.getD i' 0 = li at *
                generalize l.getD j' 0 = lj at *
                go_wp2
                refine wp_region_noPanic ?_
                go_region
                refine NoPanic.normal ?_
                go_wp2
                go_roundg f'
                all_goals first | (have := HF.out; omega) | exact ⟨i' + 1, jm, _, by go_num, rfl, S1.out, by omega⟩ | exact ⟨i' + 1, jm, _, by go_num, rfl, S2.out, by omega⟩
              · go_wp2
                refine leaves_cons (f := 27) (args := #[.pointer (some ⟨w.heap.size + 1 + 1, 0, none⟩), .pointer (some ⟨w.heap.size, 0, none⟩)]) (by simp) (by simp [go_sem]) ?_
                have hLW := hL.below hR.below
                refine (closure_at hLW hG hn .returning).mono ?_
                rintro e u' w7 ⟨rfl, rfl, ho⟩
                have hE := turning_end hR hij ho hsz1
                refine ⟨_, results_tmp2 rfl _ _ _, hLW.found ho, k, HNS.out, Or.inr ⟨by rw [HS.out]; exact hstop.out, _, rfl, ?_⟩⟩
                rw [HS.out]
                have hw : Plain.walk (u : Int) (4 * u + 1) s = l := by rw [hE.1]; unfold Plain.walk; rw [← HXS.out]
                refine Or.inr ⟨HT2.out, gw, capw, ?_, ?_⟩
                · rw [hw, hR.len]; rfl
                · rw [hw, hR.len]; exact hE.2
          · subst hz
            have hy4 := hG.lt y (List.mem_of_getElem? hqm)
            have hyne : ((y : Int) != -1) = true := by rw [bne_iff_ne]; omega
            have ky1 := cell_later HC.out (HPR.out y hy4)
            obtain ⟨f', hf'⟩ : ∃ f', gk = f' + 1 := ⟨gk - 1, by omega⟩
            subst hf'
            have hvb : Hid (∀ b, Value.ownBlock u6 = some b → w2.heap.size ≤ b) := fun b hb => (hown.lt b hb).1
            have HXS : Hid (xs ++ Plain.chase s.par (f' + 1) (y : Int) = Plain.back (u : Int) (4 * u + 1) s) := hxs
            have HLN : Hid (xs.length + (f' + 1) = s.q.length + 2) := hlen
            have hxl : xs.length ≤ 1048576 := by omega
            have hy4I : (y : Int) < 4 * (T.length : Int) := by omega
            clear hxs hlen hnn
            go_wp2_with ((at_builtin; refine wpList_append_own _ rfl (.tmp 150) (.tmp 153) 27 rfl w2.heap.size 3 i0 (.int .i64 0) 1 8 Try.underlying27 hi hz0 hz1 hz2 rfl (by decide) _ _ _ rfl (hown.alloc _) ⟨wr.heap.size, 0, none⟩ 1 1 [.int .i64 ((y : Int) / 4)] rfl rfl (news_at _ _ _ _ rfl) (one_int _ _) (by unfold maxLen; omega) (by omega) (by simp; omega) ?_; intro v1 w1 hown1 hgrow1 hiff1; have hnn1 : v1 ≠ .slice none 0 0 := fun e => absurd (hiff1.1 e).2 (by omega); have C1 := chase_step hG HC.out HXS.out HLN.out hqm hm (by simpa using hown1) hgrow1 hvb.out hnn1; have cx2 := cell_later C1.below cx; have ky2 := cell_later C1.below (HPR.out y hy4); clear hown1 hgrow1 hiff1 hnn1))
            go_roundg f'
            case measure => omega
            case rel => exact ⟨_, rfl, C1⟩)

end Go.Proofs.Qxb6600624a
