/-
  DERIVED. count.
-/
import Derived.Test.Qxb6603051aHeld3
import Derived.Deep.DeepCutAuto
namespace Go.Proofs.Qxb6603051a
open Go.RowKit Go.Maps

theorem toList_data (s : ByteArray) : s.toList = s.data.toList := ByteArray.toList_eq s
theorem beq_toList (a b : ByteArray) : (a.toList == b.toList) = decide (a = b) := by
  rw [toList_data, toList_data]
  by_cases h : a = b
  · subst h; simp
  · have : ¬ a.data = b.data := fun e => h (ByteArray.ext e)
    simp [h, this]
theorem isEmpty_toList (a : ByteArray) : a.toList.isEmpty = decide (a = ⟨#[]⟩) := by
  rw [toList_data]
  by_cases h : a = ⟨#[]⟩
  · subst h; rfl
  · have : a.data.toList ≠ [] := fun e => h (ByteArray.ext (Array.toList_eq_nil_iff.1 e))
    simp [h]
    intro e
    exact this (by rw [e])

def nop : ByteArray × List ByteArray := (⟨#[]⟩, [])
/-- The slice value v holds the placements P. -/
def PlTab (w : World) (v : Value) (P : List (ByteArray × List ByteArray)) : Prop :=
  ∃ a cap, v = .slice a P.length cap ∧ P.length ≤ 9223372036854775807 ∧ ∀ k, k < P.length → ∃ b o u, a = some ⟨b, o, none⟩ ∧ w.cell? ⟨b, o + k * 2, none⟩ = some (.string (P.getD k nop).1) ∧ (P.getD k nop).1.size ≤ 9223372036854775807 ∧ w.cell? ⟨b, o + k * 2 + 1, none⟩ = some u ∧ Strs w u (P.getD k nop).2
theorem CellsKept.pl {w w' : World} (h : CellsKept w w') {v : Value} {P : List (ByteArray × List ByteArray)} (hp : PlTab w v P) : PlTab w' v P := by
  obtain ⟨a, cap, rfl, hl, hc⟩ := hp
  refine ⟨a, cap, rfl, hl, fun k hk => ?_⟩
  obtain ⟨b, o, u, h1, h2, h3, h4, h5⟩ := hc k hk
  exact ⟨b, o, u, h1, h.cell h2, h3, h.cell h4, h.strs h5⟩

/-- How many stores count makes at most. -/
def cost (P : List (ByteArray × List ByteArray)) : Nat := (P.map (fun p => 2 * p.2.length + 1)).sum
theorem cost_succ (P : List (ByteArray × List ByteArray)) (k : Nat) (h : k < P.length) : cost (P.take (k + 1)) = cost (P.take k) + (2 * (P.getD k nop).2.length + 1) := by
  have e : P.getD k nop = P[k] := by rw [List.getD_eq_getElem?_getD, List.getElem?_eq_getElem h]; rfl
  unfold cost
  rw [List.take_succ_eq_append_getElem h, List.map_append, List.sum_append, e]
  simp
theorem cost_le (P : List (ByteArray × List ByteArray)) (k : Nat) : cost (P.take k) ≤ cost P := by
  have e : P.map (fun p => 2 * p.2.length + 1) = (P.take k).map (fun p => 2 * p.2.length + 1) ++ (P.drop k).map (fun p => 2 * p.2.length + 1) := by rw [← List.map_append, List.take_append_drop]
  unfold cost
  rw [e, List.sum_append]
  omega
theorem take_pl (P : List (ByteArray × List ByteArray)) (k : Nat) (h : k < P.length) : P.take (k + 1) = P.take k ++ [P.getD k nop] := take_snoc P nop k h
theorem others_snoc (S : List ByteArray) (x l : ByteArray) : others (S ++ [x]) l = others S l ++ if x = l then [] else [x] := by
  unfold others
  rw [List.filter_append]
  by_cases e : x = l
  · simp [e]
  · simp [e]

theorem below_grown {w0 w w' : World} {B : Nat} {r : Option Nat} (h : Below B w0 w) (hg : w.grownBy w' r) (hB : B ≤ w.heap.size) (hr : ∀ q, r = some q → B ≤ q) : Below B w0 w' := h.grown hg hB hr

set_option maxRecDepth 100000 in
set_option maxHeartbeats 4000000 in
theorem count_any (hb n : Nat) (s : Abs) (fm : ByteArray → Option Nat) (P : List (ByteArray × List ByteArray)) (pv : Value) (d : Int) (w0 : World) (hH : HS w0 hb n s fm) (hP : PlTab w0 pv P) (hn : n + cost P < 1073741824) :
    Calls Try.prog 46 #[.map (some hb), pv, .int .i64 d] w0 fun e w' => e = .returned (.tuple #[]) ∧ (∃ fm', HS w' hb (n + cost P) (allPl d s P) fm') ∧ CellsKept w0 w' ∧ Below hb w0 w' := by
  obtain ⟨a, cap, rfl, hPl, hc⟩ := hP
  have HC : Hid (∀ k, k < P.length → ∃ b o u, a = some ⟨b, o, none⟩ ∧ w0.cell? ⟨b, o + k * 2, none⟩ = some (.string (P.getD k nop).1) ∧ (P.getD k nop).1.size ≤ 9223372036854775807 ∧ w0.cell? ⟨b, o + k * 2 + 1, none⟩ = some u ∧ Strs w0 u (P.getD k nop).2) := hc
  have HH0 : Hid (HS w0 hb n s fm) := hH
  clear hc hH
  go_enter Try.func46, Try.ntmps46
  go_wp2
  go_loopw [16] (fun i wr => ∃ (k : Nat) (fm' : ByteArray → Option Nat), k ≤ P.length ∧ i = .int .i64 k ∧ HS wr hb (n + cost (P.take k)) (allPl d s (P.take k)) fm' ∧ CellsKept w0 wr ∧ Below hb w0 wr) (fun i _ => P.length - (intOf i).toNat)
  case atStart => exact ⟨0, fm, Nat.zero_le _, rfl, by rw [List.take_zero]; exact HH0.out, cells_refl _, Below.refl _ _⟩
  case round =>
    obtain ⟨k, fm1, hk, rfl, hS1, hck, hbl⟩ := hrel
    have HS1 : Hid (HS wr hb (n + cost (P.take k)) (allPl d s (P.take k)) fm1) := hS1
    have HCK : Hid (CellsKept w0 wr) := hck
    have HBL : Hid (Below hb w0 wr) := hbl
    clear HH0 hS1 hck hbl
    by_cases hlt : k < P.length
    · obtain ⟨b, o, u, rfl, c1, hlsz, c2, hu⟩ := HC.out k hlt
      have HTP : Hid _ := take_pl P k hlt
      have HCO : Hid _ := cost_succ P k hlt
      have HCL : Hid _ := cost_le P (k + 1)
      have HALL : Hid (allPl d s (P.take (k + 1)) = onePl d (allPl d s (P.take k)) (P.getD k nop)) := by show _ = _; rw [take_pl P k hlt, allPl_snoc]
      obtain ⟨au, cu, rfl⟩ := hu.slice
      have hul : (P.getD k nop).2.length ≤ 9223372036854775807 := by obtain ⟨_, _, _, _, h, _⟩ := hu; exact h
      have HU : Hid (Strs w0 (.slice au (P.getD k nop).2.length cu) (P.getD k nop).2) := hu
      replace c1 := HCK.out.cell c1
      replace c2 := HCK.out.cell c2
      clear hu
      have hlen : n + cost (P.take k) + 2 * (P.getD k nop).2.length + 1 < 1073741824 := by
        have := HCO.out
        have := HCL.out
        omega
      generalize allPl d s (P.take k) = s0 at HS1 HALL
      generalize hn0 : n + cost (P.take k) = n0 at HS1 hlen
      obtain ⟨ld, reps, hp⟩ : ∃ ld reps, P.getD k nop = (ld, reps) := ⟨_, _, rfl⟩
      rw [hp] at c1 c2 hul HU hlen HALL HCO hlsz
      simp only at c1 c2 hul HU hlen HCO hlsz
      have HN1 : Hid (n + cost (P.take (k + 1)) = n0 + (2 * reps.length + 1)) := by have := HCO.out; show _ = _; omega
      clear HTP HCO HCL hp hn0
      have HS2 : Hid (HS (wr.alloc (.cells #[.string ld, .slice au reps.length cu] 35)) hb n0 s0 fm1) := HS1.out.later ((Below.refl _ _).alloc (Nat.le_refl _) _)
      have HCK2 : Hid (CellsKept w0 (wr.alloc (.cells #[.string ld, .slice au reps.length cu] 35))) := HCK.out.trans (cells_below ((Below.refl _ _).alloc (Nat.le_refl _) _))
      have HBL2 : Hid (Below hb w0 (wr.alloc (.cells #[.string ld, .slice au reps.length cu] 35))) := HBL.out.alloc (Nat.le_of_lt HS1.out.lt) _
      have HROW : Hid ((wr.alloc (.cells #[.string ld, .slice au reps.length cu] 35)).rowIs wr.heap.size 35 2 (fun i => if i = 0 then .string ld else .slice au reps.length cu)) := World.rowIs_alloc wr _ 35 _ (fun i hi => by
        have hi' : i < 2 := hi
        have : i = 0 ∨ i = 1 := by omega
        rcases this with rfl | rfl <;> rfl)
      go_wp2
      generalize hpb : wr.heap.size = pb at HROW ⊢
      generalize hw1 : wr.alloc (.cells #[.string ld, .slice au reps.length cu] 35) = w1 at HS2 HCK2 HBL2 HROW ⊢
      clear hpb hw1 HS1 HCK HBL c1 c2
      go_loopw [23] (fun i wx => ∃ j : Nat, j ≤ reps.length ∧ i = .int .i64 j ∧ HS wx hb (n0 + j) ⟨addAll d s0.R (reps.take j), s0.L, s0.F⟩ fm1 ∧ CellsKept w1 wx ∧ Below hb w1 wx) (fun i _ => reps.length - (intOf i).toNat)
      case atStart => exact ⟨0, Nat.zero_le _, rfl, by rw [List.take_zero, addAll_nil]; exact HS2.out, cells_refl _, Below.refl _ _⟩
      case round =>
        obtain ⟨j, hj, rfl, hS3, hck3, hbl3⟩ := hrel
        have HS3 : Hid (HS wr hb (n0 + j) ⟨addAll d s0.R (reps.take j), s0.L, s0.F⟩ fm1) := hS3
        have HCK3 : Hid (CellsKept w1 wr) := hck3
        have HBL3 : Hid (Below hb w1 wr) := hbl3
        clear hS3 hck3 hbl3 HS2
        by_cases hlt2 : j < reps.length
        · obtain ⟨hts, b2, o2, rfl, ct⟩ : (reps.getD j ByteArray.empty).size ≤ 9223372036854775807 ∧ ∃ b2 o2, au = some ⟨b2, o2, none⟩ ∧ wr.cell? ⟨b2, o2 + j, none⟩ = some (.string (reps.getD j ByteArray.empty)) := by
            obtain ⟨a', c', e', _, _, hc'⟩ := (HCK2.out.trans HCK3.out).strs HU.out
            injection e' with e1
            obtain ⟨h1, b, o, h2, h3⟩ := hc' j hlt2
            exact ⟨h1, b, o, e1.trans h2, h3⟩
          have HTK : Hid (reps.take (j + 1) = reps.take j ++ [reps.getD j ByteArray.empty]) := take_snoc reps _ j hlt2
          obtain ⟨m, dom, hm, hT⟩ := HS3.out.tab
          have hlook := hT.look (reps.getD j ByteArray.empty) hts
          unfold loadV at hlook
          generalize reps.getD j ByteArray.empty = x at *
          simp only at hT hlook
          generalize hRR : addAll d s0.R (reps.take j) = RR at *
          obtain ⟨r', hr'⟩ : ∃ r', wrap64 (RR x + d) = r' := ⟨_, rfl⟩
          have hr2 : IntKind.i64.wrap (RR x + d) = r' := by rw [← hr', IntKind.wrap_i64]; unfold wrap64; omega
          have HNEW : Hid (∀ w4, Below wr.heap.size wr w4 → ∀ w5, SetTo w4 hb (m + 1) (gupd RR x r') (gupd s0.L x (s0.L x)) (fupd fm1 x (fm1 x)) w5 → HS w5 hb (n0 + (j + 1)) ⟨addAll d s0.R (reps.take (j + 1)), s0.L, s0.F⟩ fm1 ∧ CellsKept w1 w5 ∧ Below hb w1 w5) := fun w4 hb4 w5 hs5 => by
            have h4 := HS3.out.later hb4
            obtain ⟨n', dom', q1, q2, q3⟩ := hs5
            have h5 := h4.set x r' (s0.L x) ⟨n', dom', by omega, q2, q3⟩
            refine ⟨?_, HCK3.out.trans ((cells_below hb4).trans (cells_grown q3 (fun q e => by cases e; exact h4.map))), (HBL3.out.trans (hb4.mono (Nat.le_of_lt HS3.out.lt))).grown q3 (Nat.le_of_lt h4.lt) (fun q e => by cases e; exact Nat.le_refl _)⟩
            rw [HTK.out, addAll_snoc, hRR]
            unfold addRep
            rw [hr']
            have e : gupd s0.L x (s0.L x) = s0.L := gupd_id _ _
            have h6 : HS w5 hb (n0 + j + 1) ⟨gupd RR x r', gupd s0.L x (s0.L x), s0.F⟩ fm1 := h5
            rw [e] at h6
            exact h6
          have HSET : Hid (∀ w4, Below wr.heap.size wr w4 → Calls Try.prog 50 #[.map (some hb), .string x, loadV r' (s0.L x) (fm1 x)] w4 fun e w' => e = .returned (.tuple #[]) ∧ SetTo w4 hb (m + 1) (gupd RR x r') (gupd s0.L x (s0.L x)) (fupd fm1 x (fm1 x)) w') := fun w4 hb4 => set_any hb m dom RR s0.L fm1 x r' (s0.L x) (fm1 x) w4 (hT.of_block (hb4.block _ hT.lt)) hts (by omega)
          clear hT hm
          generalize RR x = rx at *
          generalize s0.L x = lx at *
          generalize fm1 x = mx at *
          clear hr'
          go_wp2_with fail
          refine (HSET.out _ ((Below.refl _ _).alloc (Nat.le_refl _) _)).mono ?_
          rintro e w5 ⟨rfl, hs5⟩
          have HN5 : Hid _ := HNEW.out _ ((Below.refl _ _).alloc (Nat.le_refl _) _) w5 hs5
          clear hs5 HSET HNEW
          go_wp2
          go_roundw
          case rel => exact ⟨j + 1, by omega, by go_num, HN5.out.1, HN5.out.2.1, HN5.out.2.2⟩
          case measure => simp [intOf]; omega
        · have hje : j = reps.length := by omega
          have HS4 : Hid (HS wr hb (n0 + reps.length) ⟨addAll d s0.R reps, s0.L, s0.F⟩ fm1) := by have := HS3.out; rw [hje, List.take_length] at this; exact this
          have HCK4 : Hid (CellsKept w0 wr) := HCK2.out.trans HCK3.out
          have HBL4 : Hid (Below hb w0 wr) := HBL2.out.trans HBL3.out
          have HROW4 : Hid (wr.rowIs pb 35 2 (fun i => if i = 0 then .string ld else .slice au reps.length cu)) := HCK3.out.row HROW.out (by omega)
          have cl0 : wr.cell? ⟨pb, 0, none⟩ = some (.string ld) := HROW4.out.cell (i := 0) (by omega)
          have cl1 : wr.cell? ⟨pb, 1, none⟩ = some (.slice au reps.length cu) := HROW4.out.cell (i := 1) (by omega)
          clear HS3 HCK3 HBL3 HCK2 HBL2 HROW hlt2 hj
          subst hje
          by_cases hl0 : ld = ⟨#[]⟩
          · have e1 : ld.toList.isEmpty = true := by rw [isEmpty_toList]; simp [hl0]
            have HALL2 : Hid (allPl d s (P.take (k + 1)) = ⟨addAll d s0.R reps, s0.L, s0.F⟩) := by show _ = _; rw [HALL.out]; unfold onePl; rw [if_pos hl0]
            clear hl0
            go_wp2
            go_roundw
            case rel => exact ⟨k + 1, fm1, by omega, by go_num, by rw [HALL2.out, HN1.out]; exact HS4.out.mono (by omega), HCK4.out, HBL4.out⟩
            case measure => simp [intOf]; omega
          · have e1 : ld.toList.isEmpty = false := by rw [isEmpty_toList]; simp [hl0]
            have HALL2 : Hid (allPl d s (P.take (k + 1)) = ⟨addAll d s0.R reps, addRep d s0.L ld, folUpd s0.F ld (addAll d (s0.F ld) (others reps ld))⟩) := by show _ = _; rw [HALL.out]; unfold onePl; rw [if_neg hl0]
            clear hl0 HALL
            obtain ⟨m, dom, hm, hT⟩ := HS4.out.tab
            have hlook := hT.look ld hlsz
            unfold loadV at hlook
            simp only at hT hlook
            clear hT hm m dom
            generalize hRR : addAll d s0.R reps = RR at *
            obtain ⟨l', hl'⟩ : ∃ l', wrap64 (s0.L ld + d) = l' := ⟨_, rfl⟩
            have HL' : Hid (wrap64 (s0.L ld + d) = l') := hl'
            have hl2 : IntKind.i64.wrap (s0.L ld + d) = l' := by rw [← hl', IntKind.wrap_i64]; unfold wrap64; omega
            have HH1 : Hid (HH (wr.alloc (.cells #[.int .i64 (RR ld), .int .i64 l', .map (fm1 ld)] 80)) hb (n0 + reps.length) ⟨RR, s0.L, s0.F⟩ fm1 ld (fm1 ld) (s0.F ld)) := (HS4.out.open ld).later ((Below.refl _ _).alloc (Nat.le_refl _) _)
            have HR1 : Hid ((wr.alloc (.cells #[.int .i64 (RR ld), .int .i64 l', .map (fm1 ld)] 80)).rowIs wr.heap.size 80 3 (fun i => if i = 0 then .int .i64 (RR ld) else if i = 1 then .int .i64 l' else .map (fm1 ld))) := World.rowIs_alloc wr _ 80 _ (fun i hi => by
              have hi' : i < 3 := hi
              have : i = 0 ∨ i = 1 ∨ i = 2 := by omega
              rcases this with rfl | rfl | rfl <;> rfl)
            have HC1 : Hid (CellsKept wr (wr.alloc (.cells #[.int .i64 (RR ld), .int .i64 l', .map (fm1 ld)] 80))) := cells_below ((Below.refl _ _).alloc (Nat.le_refl _) _)
            have HB1 : Hid (Below hb wr (wr.alloc (.cells #[.int .i64 (RR ld), .int .i64 l', .map (fm1 ld)] 80))) := (Below.refl _ _).alloc (Nat.le_of_lt HS4.out.lt) _
            have hhb : hb < wr.heap.size := HS4.out.lt
            clear hl' HS4
            generalize hmx : fm1 ld = mx at *
            generalize hlx : s0.L ld = lx at hlook hl2 HL'
            generalize hrx : RR ld = rx at hlook HR1 HH1 HC1 HB1
            have cl1a : (wr.alloc (.cells #[.int .i64 rx, .int .i64 l', .map mx] 80)).cell? ⟨pb, 1, none⟩ = some (.slice au reps.length cu) := Lib.cell?_alloc_some _ cl1
            go_wp2
            clear cl1a
            generalize hw2 : wr.alloc (.cells #[.int .i64 rx, .int .i64 l', .map mx] 80) = w2 at HH1 HR1 HC1 HB1 ⊢
            generalize wr = w3 at *
            go_loopw [55] (fun i wx => ∃ (j : Nat) (mb : Option Nat), j ≤ reps.length ∧ i = .int .i64 j ∧ HH wx hb (n0 + reps.length + j) ⟨RR, s0.L, s0.F⟩ fm1 ld mb (addAll d (s0.F ld) (others (reps.take j) ld)) ∧ wx.rowIs w3.heap.size 80 3 (fun i => if i = 0 then .int .i64 rx else if i = 1 then .int .i64 l' else .map mb) ∧ CellsKept w3 wx ∧ Below hb w3 wx) (fun i _ => reps.length - (intOf i).toNat)
            case atStart => exact ⟨0, mx, Nat.zero_le _, rfl, by rw [List.take_zero]; exact HH1.out, HR1.out, HC1.out, HB1.out⟩
            case round =>
              obtain ⟨j, mb, hj, rfl, hH, hR, hC, hB⟩ := hrel
              have HHx : Hid (HH wr hb (n0 + reps.length + j) ⟨RR, s0.L, s0.F⟩ fm1 ld mb (addAll d (s0.F ld) (others (reps.take j) ld))) := hH
              have HRx : Hid (wr.rowIs w3.heap.size 80 3 (fun i => if i = 0 then .int .i64 rx else if i = 1 then .int .i64 l' else .map mb)) := hR
              have HCx : Hid (CellsKept w3 wr) := hC
              have HBx : Hid (Below hb w3 wr) := hB
              clear hH hR hC hB HH1 HR1 HC1 HB1 hlook hl2
              have p0 : wr.cell? ⟨pb, 0, none⟩ = some (.string ld) := HCx.out.cell cl0
              have q0 : wr.cell? ⟨w3.heap.size, 0, none⟩ = some (.int .i64 rx) := HRx.out.cell (i := 0) (by omega)
              have q1 : wr.cell? ⟨w3.heap.size, 1, none⟩ = some (.int .i64 l') := HRx.out.cell (i := 1) (by omega)
              have q2 : wr.cell? ⟨w3.heap.size, 2, none⟩ = some (.map mb) := HRx.out.cell (i := 2) (by omega)
              by_cases hlt2 : j < reps.length
              · obtain ⟨hts, b2, o2, rfl, ct⟩ : (reps.getD j ByteArray.empty).size ≤ 9223372036854775807 ∧ ∃ b2 o2, au = some ⟨b2, o2, none⟩ ∧ wr.cell? ⟨b2, o2 + j, none⟩ = some (.string (reps.getD j ByteArray.empty)) := by
                  obtain ⟨a', c', e', _, _, hc'⟩ := (HCK4.out.trans HCx.out).strs HU.out
                  injection e' with e1
                  obtain ⟨h1, b, o, h2, h3⟩ := hc' j hlt2
                  exact ⟨h1, b, o, e1.trans h2, h3⟩
                have HTK : Hid (others (reps.take (j + 1)) ld = others (reps.take j) ld ++ if reps.getD j ByteArray.empty = ld then [] else [reps.getD j ByteArray.empty]) := by show _ = _; rw [take_snoc reps ByteArray.empty j hlt2, others_snoc]
                generalize reps.getD j ByteArray.empty = x at *
                by_cases hxl : x = ld
                · have hbq : (x.toList == ld.toList) = true := by rw [beq_toList]; simp [hxl]
                  have HTK2 : Hid (others (reps.take (j + 1)) ld = others (reps.take j) ld) := by show _ = _; rw [HTK.out, if_pos hxl, List.append_nil]
                  clear hxl
                  go_wp2
                  go_roundw
                  case rel => exact ⟨j + 1, mb, by omega, by go_num, by
                    rw [HTK2.out]
                    obtain ⟨h1, h2, h3, h4, h5, h6, h7⟩ := HHx.out
                    obtain ⟨m, dom, hm, hT⟩ := h1
                    exact ⟨⟨m, dom, by omega, hT⟩, fun i hi => (h2 i hi).mono (by omega), h3.mono (by omega), h4, h5, h6, h7⟩, HRx.out, HCx.out, HBx.out⟩
                  case measure => simp [intOf]; omega
                · have hbq : (x.toList == ld.toList) = false := by rw [beq_toList]; simp [hxl]
                  have HTK2 : Hid (others (reps.take (j + 1)) ld = others (reps.take j) ld ++ [x]) := by show _ = _; rw [HTK.out, if_neg hxl]
                  have HADD : Hid (Calls Try.prog 51 #[.map mb, .string x, .int .i64 d] wr fun e w' => Added wr mb (n0 + reps.length + j) (gupd (addAll d (s0.F ld) (others (reps.take j) ld)) x (wrap64 (addAll d (s0.F ld) (others (reps.take j) ld) x + d))) e w') := addCount_any mb _ _ x d wr HHx.out.own hts (by omega)
                  clear hxl
                  go_wp2_with fail
                  refine HADD.out.mono ?_
                  rintro e w5 ⟨mb', rfl, hF5, hg5, hm5⟩
                  have hck5 : CellsKept wr w5 := cells_grown hg5 (fun q e => HHx.out.own.map e)
                  have hr5 := hck5.row HRx.out (by omega)
                  have y2 : w5.cell? ⟨w3.heap.size, 2, none⟩ = some (.map mb) := hr5.cell (i := 2) (by omega)
                  have z2 : w5.frozen? ⟨w3.heap.size, 2, none⟩ = false := hr5.frozen 2
                  obtain ⟨cc, tt, ff, hblk⟩ := cell_block (a := ⟨w3.heap.size, 2, none⟩) y2
                  have HH6 : Hid (HH (w5.setCell ⟨w3.heap.size, 2, none⟩ (.map mb')) hb (n0 + reps.length + (j + 1)) ⟨RR, s0.L, s0.F⟩ fm1 ld mb' (addAll d (s0.F ld) (others (reps.take (j + 1)) ld))) := by
                    show HH _ _ _ _ _ _ _ _
                    rw [HTK2.out, addAll_snoc]
                    exact (HHx.out.add hF5 hg5 hm5).store (a := ⟨w3.heap.size, 2, none⟩) hblk _
                  have HR6 : Hid ((w5.setCell ⟨w3.heap.size, 2, none⟩ (.map mb')).rowIs w3.heap.size 80 3 (fun i => if i = 0 then .int .i64 rx else if i = 1 then .int .i64 l' else .map mb')) := (hr5.set 2 _).congr (fun i hi => by
                    have : i = 0 ∨ i = 1 ∨ i = 2 := by omega
                    rcases this with rfl | rfl | rfl <;> simp)
                  have HC6 : Hid (CellsKept w3 (w5.setCell ⟨w3.heap.size, 2, none⟩ (.map mb'))) := (HCx.out.trans hck5).set (Nat.le_refl _) _
                  have HB6 : Hid (Below hb w3 (w5.setCell ⟨w3.heap.size, 2, none⟩ (.map mb'))) := (HBx.out.grown hg5 (by have := HBx.out.size; omega) (fun q e => Nat.le_of_lt (HHx.out.upm q e))).setCell (Nat.le_of_lt hhb) _
                  clear hF5 hg5 hm5 hck5 hr5 hblk HADD
                  go_wp2
                  go_roundw
                  case rel => exact ⟨j + 1, mb', by omega, by go_num, HH6.out, HR6.out, HC6.out, HB6.out⟩
                  case measure => simp [intOf]; omega
              · have hje : j = reps.length := by omega
                obtain ⟨m, dom, hm, hT⟩ := HHx.out.tab
                simp only at hT
                have HEND : Hid (∀ w5, SetTo wr hb (m + 1) (gupd RR ld rx) (gupd s0.L ld l') (fupd fm1 ld mb) w5 → (∃ fm', HS w5 hb (n + cost (P.take (k + 1))) (allPl d s (P.take (k + 1))) fm') ∧ CellsKept w0 w5 ∧ Below hb w0 w5) := fun w5 hs5 => by
                  obtain ⟨n', dom', r1, r2, r3⟩ := hs5
                  have h6 : HS w5 hb (n0 + reps.length + j + 1) ⟨RR, gupd s0.L ld l', folUpd s0.F ld (addAll d (s0.F ld) (others (reps.take j) ld))⟩ (fupd fm1 ld mb) := HHx.out.shut l' ⟨n', dom', by omega, by show HT _ _ _ _ (gupd RR ld (RR ld)) _ _; rw [hrx]; exact r2, r3⟩
                  rw [hje, List.take_length] at h6
                  refine ⟨⟨fupd fm1 ld mb, ?_⟩, HCK4.out.trans (HCx.out.trans (cells_grown r3 (fun q e => by cases e; exact HHx.out.map))), (HBL4.out.trans HBx.out).grown r3 (by have := HBx.out.size; omega) (fun q e => by cases e; exact Nat.le_refl _)⟩
                  rw [HALL2.out, HN1.out]
                  unfold addRep
                  rw [hlx, HL'.out]
                  exact h6.mono (by omega)
                have HSET : Hid (Calls Try.prog 50 #[.map (some hb), .string ld, loadV rx l' mb] wr fun e w' => e = .returned (.tuple #[]) ∧ SetTo wr hb (m + 1) (gupd RR ld rx) (gupd s0.L ld l') (fupd fm1 ld mb) w') := set_any hb m dom RR s0.L fm1 ld rx l' mb wr hT hlsz (by omega)
                clear hT hm hje
                go_wp2_with fail
                refine HSET.out.mono ?_
                rintro e w5 ⟨rfl, hs5⟩
                have HE5 : Hid _ := HEND.out w5 hs5
                clear hs5 HSET HEND
                go_wp2
                go_roundw
                case rel =>
                  obtain ⟨fm', h1⟩ := HE5.out.1
                  exact ⟨k + 1, fm', by omega, by go_num, h1, HE5.out.2.1, HE5.out.2.2⟩
                case measure => simp [intOf]; omega
    · have hke : k = P.length := by omega
      have HS9 : Hid (HS wr hb (n + cost P) (allPl d s P) fm1) := by have := HS1.out; rw [hke, List.take_length] at this; exact this
      clear hke HS1
      go_wp2
      exact bodyPost_end (v := .tuple #[]) (by simp [results, Try.results46, go_sem]) rfl ⟨rfl, ⟨fm1, HS9.out⟩, HCK.out, HBL.out⟩
end Go.Proofs.Qxb6603051a
