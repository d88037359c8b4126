/-
  DERIVED. On how many of a scope's lists a bundle lies.
-/
import Derived.Test.Qxb6600940aPlain
import Derived.Test.Qxb6600940aModel
import Derived.Outline
import Derived.Deep.LoopGhost
namespace Go.Proofs.Qxb6600940a
open Go.RowKit

theorem slice_tail {wr : World} {b o c : Nat} {x : ByteArray} {xs : List ByteArray} (h : StrsC wr (.slice (some ⟨b, o, none⟩) (xs.length + 1) c) (x :: xs)) (hc : xs.length + 1 ≤ c) :
    ∃ a' c', (∀ w : World, (Instr.slice 24 (.slice (some ⟨b, o, none⟩) (xs.length + 1) c) (some (.int .i64 1)) none none).run Try.prog w = .ok (.slice a' xs.length c') w) ∧ StrsC wr (.slice a' xs.length c') xs := by
  obtain ⟨⟨a0, c0, e, _, hl, hcell⟩, _⟩ := h
  injection e with e1 e2 e3
  subst e1
  refine ⟨if c = 1 then some ⟨b, o, none⟩ else some ⟨b, o + 1, none⟩, c - 1, fun w => ?_, ⟨_, _, rfl, ?_, by simp at hl; omega, fun k hk => ?_⟩, _, _, rfl, by omega⟩
  · rw [run_slice_l (P := Try.prog) w 24 _ _ _ Try.underlying24 .i64 1 (by decide) (by omega)]
    by_cases h1 : c = 1 <;> simp [go_sem, h1, Addr.add]
  · split <;> intro e' <;> cases e'
  · have := hcell (k + 1) (by simp; omega)
    simp only [List.getD_cons_succ] at this
    obtain ⟨hs, b', o', e', g⟩ := this
    injection e' with e'
    injection e' with e4 e5
    subst e4 e5
    refine ⟨hs, b, o + 1, by rw [if_neg (by omega)], ?_⟩
    have : o + 1 + k = o + (k + 1) := by omega
    rw [this]; exact g

theorem mg_lt {f : Nat} {a b : ByteArray} {xa xb : List ByteArray} (h : cmpS a b < 0) : mg (f + 1) (a :: xa) (b :: xb) = mg f xa (b :: xb) := by
  show (if cmpS a b < 0 then _ else _) = _; rw [if_pos h]
theorem mg_gt {f : Nat} {a b : ByteArray} {xa xb : List ByteArray} (h : 0 < cmpS a b) : mg (f + 1) (a :: xa) (b :: xb) = mg f (a :: xa) xb := by
  show (if cmpS a b < 0 then _ else _) = _; rw [if_neg (by omega), if_pos h]
theorem mg_same {f : Nat} {a b : ByteArray} {xa xb : List ByteArray} (h1 : ¬ cmpS a b < 0) (h : ¬ 0 < cmpS a b) : mg (f + 1) (a :: xa) (b :: xb) = 1 + mg f xa xb := by
  show (if cmpS a b < 0 then _ else _) = _; rw [if_neg h1, if_neg h]
theorem cell_new (w : World) (c : Array Value) (t : TypeId) (i : Nat) : (w.alloc (.cells c t)).cell? ⟨w.heap.size, i, none⟩ = c[i]? := by
  have := Go.Deep.blk_alloc_new w (.cells c t)
  simp only [World.cell?, this]
  rfl

/-- On how many lists of the scope a bundle lies. -/
def listsN (tops S : List ByteArray) (bc bt sc st : ByteArray) : Nat := mg (tops.length + S.length) tops S + if shares bc bt sc st then 1 else 0

set_option maxRecDepth 100000 in
set_option maxHeartbeats 1000000 in
theorem listsIn_any (bb : Nat) (tv sv : Value) (tops S : List ByteArray) (bc bt sc st : ByteArray) (w : World) (ht : StrsC w tv tops) (hs : StrsC w sv S)
    (c1 : w.cell? ⟨bb, 1, none⟩ = some (.string bc)) (c2 : w.cell? ⟨bb, 2, none⟩ = some (.string bt)) (c3 : w.cell? ⟨bb, 3, none⟩ = some tv) (hl1 : tops.length ≤ 4096) (hl2 : S.length ≤ 4096) :
    Calls Try.prog 32 #[.pointer (some ⟨bb, 0, none⟩), .agg #[sv, .string sc, .string st, .int .i32 0]] w fun e w' => e = .returned (.int .i64 (listsN tops S bc bt sc st)) ∧ Below w.heap.size w w' := by
  have hbb : bb < w.heap.size := World.block_lt_of_cell? _ _ c1
  obtain ⟨at0, ct0, rfl, hct⟩ := ht.2
  obtain ⟨as0, cs0, rfl, hcs⟩ := hs.2
  go_enter Try.func32, Try.ntmps32
  go_wp2
  go_quiet (fail)
  go_wp2
  have HW1 : Hid (∀ wr, Drew (w.alloc (.cells #[.slice as0 S.length cs0, .string sc, .string st, .int .i32 0] 56)) wr → StrsC wr (.slice at0 tops.length ct0) tops ∧ StrsC wr (.slice as0 S.length cs0) S) := fun wr hd =>
    ⟨(ht.below ((Below.refl _ _).alloc (Nat.le_refl _) _)).below (hd.below _), (hs.below ((Below.refl _ _).alloc (Nat.le_refl _) _)).below (hd.below _)⟩
  go_loopg [5, 6, 7] (tops.length + S.length) (fun f n v6 v7 wr => ∃ (k : Nat) (xs ys : List ByteArray), n = .int .i64 k ∧ StrsC wr v6 xs ∧ StrsC wr v7 ys ∧ k ≤ 8192 - f ∧ f ≤ 8192 ∧ Hid (k + mg f xs ys = mg (tops.length + S.length) tops S ∧ xs.length + ys.length ≤ f ∧ Drew (w.alloc (.cells #[.slice as0 S.length cs0, .string sc, .string st, .int .i32 0] 56)) wr))
  case atStart => exact ⟨0, tops, S, rfl, (HW1.out _ ⟨_, rfl⟩).1, (HW1.out _ ⟨_, rfl⟩).2, by omega, by omega, by simp, Nat.le_refl _, _, rfl⟩
  case round =>
    obtain ⟨k, xs, ys, rfl, h6, h7, hkf, hf8, hh⟩ := hrel
    cases xs with
    | nil =>
      have HM : Hid (k = mg (tops.length + S.length) tops S) := by have := hh.out.1; show k = _; simpa [mg_nil_left, mg_nil_right] using this
      obtain ⟨a6, c6, rfl, hc6⟩ := h6.2
      obtain ⟨a7, c7, rfl, hc7⟩ := h7.2
      have HBW : Hid (Below w.heap.size w wr) := ((Below.refl _ _).alloc (Nat.le_refl _) _).trans (hh.out.2.2.below w.heap.size)
      have e1 := cell_later HBW.out c1
      have e2 := cell_later HBW.out c2
      have s1 : wr.cell? ⟨w.heap.size, 1, none⟩ = some (.string sc) := cell_later (hh.out.2.2.below _) (cell_new w _ _ 1)
      have s2 : wr.cell? ⟨w.heap.size, 2, none⟩ = some (.string st) := cell_later (hh.out.2.2.below _) (cell_new w _ _ 2)
      clear hh h6 h7 ht hs HW1 c1 c2 c3
      by_cases q1 : st = ⟨#[]⟩
      · have e3 : st.toList.isEmpty = true := by rw [isEmpty_toList]; simp [q1]
        have H1 : Hid (shares bc bt sc st = false) := by show _ = false; simp [shares, q1]
        clear q1
        go_wp2
        go_quiet (fail)
        go_wp2
        go_ret
        exact ⟨by simp [listsN, H1.out, ← HM.out], HBW.out.trans (below_drewN' _ _ _)⟩
      · have e3 : st.toList.isEmpty = false := by rw [isEmpty_toList]; simp [q1]
        by_cases q2 : bc = sc ∧ bt = st
        · have e4 : (bc.toList == sc.toList) = true := by rw [beq_toList]; simp [q2.1]
          have e5 : (bt.toList == st.toList) = true := by rw [beq_toList]; simp [q2.2]
          have H1 : Hid (shares bc bt sc st = true) := by show _ = true; simp [shares, q1, q2.1, q2.2]
          clear q1 q2
          go_wp2
          go_quiet (fail)
          go_wp2
          go_ret
          exact ⟨by simp [listsN, H1.out, ← HM.out], HBW.out.trans (below_drewN' _ _ _)⟩
        · by_cases q3 : bc = sc
          · have q4 : ¬ bt = st := fun e => q2 ⟨q3, e⟩
            have H1 : Hid (shares bc bt sc st = false) := by show _ = false; simp [shares, q4]
            have e4 : (bc.toList == sc.toList) = true := by rw [beq_toList]; simp [q3]
            have e5 : (bt.toList == st.toList) = false := by rw [beq_toList]; simp [q4]
            clear q1 q2 q3 q4
            go_wp2
            go_quiet (fail)
            go_wp2
            go_ret
            exact ⟨by simp [listsN, H1.out, ← HM.out], HBW.out.trans (below_drewN' _ _ _)⟩
          · have H1 : Hid (shares bc bt sc st = false) := by show _ = false; simp [shares, q3]
            have e4 : (bc.toList == sc.toList) = false := by rw [beq_toList]; simp [q3]
            clear q1 q2 q3
            go_wp2
            go_quiet (fail)
            go_wp2
            go_ret
            exact ⟨by simp [listsN, H1.out, ← HM.out], HBW.out.trans (below_drewN' _ _ _)⟩
    | cons x xs =>
    cases ys with
    | nil =>
      have HM : Hid (k = mg (tops.length + S.length) tops S) := by have := hh.out.1; show k = _; simpa [mg_nil_left, mg_nil_right] using this
      obtain ⟨a6, c6, rfl, hc6⟩ := h6.2
      obtain ⟨a7, c7, rfl, hc7⟩ := h7.2
      have HBW : Hid (Below w.heap.size w wr) := ((Below.refl _ _).alloc (Nat.le_refl _) _).trans (hh.out.2.2.below w.heap.size)
      have e1 := cell_later HBW.out c1
      have e2 := cell_later HBW.out c2
      have s1 : wr.cell? ⟨w.heap.size, 1, none⟩ = some (.string sc) := cell_later (hh.out.2.2.below _) (cell_new w _ _ 1)
      have s2 : wr.cell? ⟨w.heap.size, 2, none⟩ = some (.string st) := cell_later (hh.out.2.2.below _) (cell_new w _ _ 2)
      clear hh h6 h7 ht hs HW1 c1 c2 c3
      by_cases q1 : st = ⟨#[]⟩
      · have e3 : st.toList.isEmpty = true := by rw [isEmpty_toList]; simp [q1]
        have H1 : Hid (shares bc bt sc st = false) := by show _ = false; simp [shares, q1]
        clear q1
        go_wp2
        go_quiet (fail)
        go_wp2
        go_ret
        exact ⟨by simp [listsN, H1.out, ← HM.out], HBW.out.trans (below_drewN' _ _ _)⟩
      · have e3 : st.toList.isEmpty = false := by rw [isEmpty_toList]; simp [q1]
        by_cases q2 : bc = sc ∧ bt = st
        · have e4 : (bc.toList == sc.toList) = true := by rw [beq_toList]; simp [q2.1]
          have e5 : (bt.toList == st.toList) = true := by rw [beq_toList]; simp [q2.2]
          have H1 : Hid (shares bc bt sc st = true) := by show _ = true; simp [shares, q1, q2.1, q2.2]
          clear q1 q2
          go_wp2
          go_quiet (fail)
          go_wp2
          go_ret
          exact ⟨by simp [listsN, H1.out, ← HM.out], HBW.out.trans (below_drewN' _ _ _)⟩
        · by_cases q3 : bc = sc
          · have q4 : ¬ bt = st := fun e => q2 ⟨q3, e⟩
            have H1 : Hid (shares bc bt sc st = false) := by show _ = false; simp [shares, q4]
            have e4 : (bc.toList == sc.toList) = true := by rw [beq_toList]; simp [q3]
            have e5 : (bt.toList == st.toList) = false := by rw [beq_toList]; simp [q4]
            clear q1 q2 q3 q4
            go_wp2
            go_quiet (fail)
            go_wp2
            go_ret
            exact ⟨by simp [listsN, H1.out, ← HM.out], HBW.out.trans (below_drewN' _ _ _)⟩
          · have H1 : Hid (shares bc bt sc st = false) := by show _ = false; simp [shares, q3]
            have e4 : (bc.toList == sc.toList) = false := by rw [beq_toList]; simp [q3]
            clear q1 q2 q3
            go_wp2
            go_quiet (fail)
            go_wp2
            go_ret
            exact ⟨by simp [listsN, H1.out, ← HM.out], HBW.out.trans (below_drewN' _ _ _)⟩
    | cons y ys =>
    obtain ⟨a6, c6, rfl, hc6⟩ := h6.2
    obtain ⟨a7, c7, rfl, hc7⟩ := h7.2
    obtain ⟨_, _, e6, _, hl6, hcell6⟩ := h6.1
    obtain ⟨_, _, e7, _, hl7, hcell7⟩ := h7.1
    injection e6 with e61 e62 e63
    injection e7 with e71 e72 e73
    subst e61 e71
    obtain ⟨hs6, b6, o6, rfl, g6⟩ := hcell6 0 (by simp)
    obtain ⟨hs7, b7, o7, rfl, g7⟩ := hcell7 0 (by simp)
    simp only [List.getD_cons_zero, Nat.add_zero] at g6 g7
    simp only [List.length_cons] at hc6 hc7
    have hL6 : (0 : Int) < ((x :: xs).length : Int) := by simp
    have hL7 : (0 : Int) < ((y :: ys).length : Int) := by simp
    rw [show (x :: xs).length = xs.length + 1 from rfl] at hL6 ⊢
    rw [show (y :: ys).length = ys.length + 1 from rfl] at hL7 ⊢
    have HCMP : Hid (∀ n, Calls Try.prog 40 #[.string x, .string y] (wr.drewN n) fun e w' => e = .returned (.int .i64 (cmpS x y)) ∧ w' = wr.drewN n) := fun n => compare_any x y _
    obtain ⟨a6', c6', hsl6, t6⟩ := slice_tail h6 hc6
    obtain ⟨a7', c7', hsl7, t7⟩ := slice_tail h7 hc7
    have T6 : Hid (StrsC wr (.slice a6' xs.length c6') xs ∧ StrsC wr (.slice a7' ys.length c7') ys ∧ StrsC wr (.slice (some ⟨b6, o6, none⟩) (xs.length + 1) c6) (x :: xs) ∧ StrsC wr (.slice (some ⟨b7, o7, none⟩) (ys.length + 1) c7) (y :: ys)) := ⟨t6, t7, h6, h7⟩
    clear hcell6 hcell7 e62 e63 e72 e73 hs6 hs7 t6 t7 h6 h7
    obtain ⟨f', hf'⟩ : ∃ f', gk = f' + 1 := ⟨gk - 1, by have := hh.out.2.1; simp at this; omega⟩
    subst hf'
    have HM : Hid (k + mg (f' + 1) (x :: xs) (y :: ys) = mg (tops.length + S.length) tops S) := hh.out.1
    have HLEN : Hid ((x :: xs).length + (y :: ys).length ≤ f' + 1) := hh.out.2.1
    have HDR : Hid (Drew (w.alloc (.cells #[.slice as0 S.length cs0, .string sc, .string st, .int .i32 0] 56)) wr) := hh.out.2.2
    clear hh
    by_cases hlt : cmpS x y < 0
    · have HLT : Hid (cmpS x y < 0) := hlt
      generalize cmpS x y = c at hlt HCMP
      go_wp2
      go_quiet ((go_at_call 40; exact Calls.quiet_of_same (HCMP.out _)))
      go_wp2
      go_roundg f'
      case measure => omega
      case rel => exact ⟨k, xs, y :: ys, rfl, T6.out.1.below (below_drewN' _ _ _), T6.out.2.2.2.below (below_drewN' _ _ _), by omega, by omega, by rw [← HM.out, mg_lt HLT.out], by have := HLEN.out; simp at this ⊢; omega, HDR.out.trans ⟨_, rfl⟩⟩
    · have HLT : Hid (¬ cmpS x y < 0) := hlt
      by_cases hgt : 0 < cmpS x y
      · have HGT : Hid (0 < cmpS x y) := hgt
        generalize cmpS x y = c at hlt hgt HCMP
        go_wp2
        go_quiet ((go_at_call 40; exact Calls.quiet_of_same (HCMP.out _)))
        go_wp2
        go_roundg f'
        case measure => omega
        case rel => exact ⟨k, x :: xs, ys, rfl, T6.out.2.2.1.below (below_drewN' _ _ _), T6.out.2.1.below (below_drewN' _ _ _), by omega, by omega, by rw [← HM.out, mg_gt HGT.out], by have := HLEN.out; simp at this ⊢; omega, HDR.out.trans ⟨_, rfl⟩⟩
      · have HGT : Hid (¬ 0 < cmpS x y) := hgt
        generalize cmpS x y = c at hlt hgt HCMP
        go_wp2
        go_quiet ((go_at_call 40; exact Calls.quiet_of_same (HCMP.out _)))
        go_wp2
        go_quiet (fail)
        go_wp2
        go_roundg f'
        case measure => omega
        case rel => exact ⟨k + 1, xs, ys, by go_num, (T6.out.1.below (below_drewN' _ _ _)).below (below_drewN' _ _ _), (T6.out.2.1.below (below_drewN' _ _ _)).below (below_drewN' _ _ _), by omega, by omega, by rw [← HM.out, mg_same (by have := HLT.out; omega) (by have := HGT.out; omega)]; omega, by have := HLEN.out; simp at this ⊢; omega, HDR.out.trans ⟨_, World.drewN_drewN _ _ _⟩⟩
end Go.Proofs.Qxb6600940a
