/-
  DERIVED. The law where its premises hold.
-/
import Derived.Test.Qxb6605272aSteps
namespace Go.Proofs.Qxb6605272a
open Go.RowKit

theorem trimF_zero {f : Nat → Value} {r d : Nat} (h : 0 < r) : trimF f r d 0 = f d := by
  unfold trimF; rw [if_pos h, Nat.zero_add]

theorem same_self (w : World) (a : Addr) : (sameAddr a a).run Try.prog w = .ok true w := by simp [sameAddr]
theorem ptr_in (w : World) (d : Nat) (p : Option Addr) : (Op.equalIn (d + 1) 44 (.pointer p) (.pointer p)).run Try.prog w = .ok true w := by
  cases p <;> simp [Op.equalIn, run_underlying Try.underlying44, same_self]
theorem ptr_neq (w : World) (p : Option Addr) : (binOp .neq 44 (.pointer p) (.pointer p)).run Try.prog w = .ok (.bool false) w := by
  simp only [binOp]
  simp [Op.equal, Op.maxDepth, ptr_in w 9999 p]
theorem ptr_eql (w : World) (p : Option Addr) : (binOp .eql 44 (.pointer p) (.pointer p)).run Try.prog w = .ok (.bool true) w := by
  simp only [binOp]
  simp [Op.equal, Op.maxDepth, ptr_in w 9999 p]

/-- What the law's promise reads. -/
def Fin (w W : World) (g0 g1 g2 k d : Nat) (f F : Nat → Value) : Prop := St w W g0 g1 g2 k f F F ∧ F 0 = f d
theorem Fin.drew {w W : World} {g0 g1 g2 k d : Nat} {f F : Nat → Value} (h : Fin w W g0 g1 g2 k d f F) (n : Nat) : Fin w (W.drewN n) g0 g1 g2 k d f F :=
  ⟨h.1.later ((Below.refl _ _).trans ⟨rfl, rfl, rfl, Nat.le_refl _, fun _ _ => rfl⟩), h.2⟩
theorem Fin.both {w W : World} {g0 g1 g2 k d j : Nat} {f F : Nat → Value} (h : Fin w W g0 g1 g2 k d f F) (hj : j < k) : ∃ p, W.cell? ⟨g1, j, none⟩ = some (.pointer p) ∧ W.cell? ⟨g2, j, none⟩ = some (.pointer p) := by
  obtain ⟨p, hp⟩ := isP_some (h.1.p1 j hj)
  exact ⟨p, by rw [← hp]; exact h.1.row1.cell hj, by rw [← hp]; exact h.1.row2.cell hj⟩
theorem Fin.first {w W : World} {g0 g1 g2 k d : Nat} {f F : Nat → Value} (h : Fin w W g0 g1 g2 k d f F) (hk : 0 < k) (hd : d < k) : ∃ p, W.cell? ⟨g1, 0, none⟩ = some (.pointer p) ∧ W.cell? ⟨g0, d, none⟩ = some (.pointer p) := by
  obtain ⟨p, hp⟩ := isP_some (h.1.p1 0 hk)
  exact ⟨p, by rw [← hp]; exact h.1.row1.cell hk, by rw [← hp, h.2]; exact h.1.s1.2.1.cell hd⟩

set_option maxRecDepth 100000 in
set_option maxHeartbeats 1000000 in
theorem late (f1 f2 st n k x r r1 d d1 d2 sa : Nat) (w : World) (h1 : st ≤ f1) (h2 : f1 ≤ f2) (h3 : f2 < n) (hn : n < 18446744073709551616) (hx : IntKind.u64.wrap ((n : Int) - st) = x) (h : x ≤ 65536)
    (hk0 : 0 < k) (hk : k ≤ 64) (hneed : ((x : Int) + 1024 - 1) / 1024 = k)
    (hd1 : (f1 - st) / 1024 = d1) (hd : (f2 - st) / 1024 = d) (hd2 : (f2 - (st + 1024 * d1)) / 1024 = d2) (hr1 : k = r1 + d1) (hr : k = r + d) (hr2 : r1 = r + d2) (hr0 : 0 < r)
    (hsa : st + 1024 * d = sa) (hsa1 : st + 1024 * d1 + 1024 * d2 = sa) (hsf : sa ≤ f2) (y : Nat) (hy : IntKind.u64.wrap ((n : Int) - sa) = y) (hyr : ((y : Int) + 1024 - 1) / 1024 = r) (hyl : y ≤ 65536)
    (u : Nat) (hu : IntKind.u64.wrap ((f2 : Int) - sa) = u) (hul : u < 1024) (v : Nat) (hv : IntKind.u64.wrap ((sa : Int) - st) = v) (hvd : (v : Int) / 1024 = d) (hvm : (v : Int) % 1024 = 0) :
    Calls Try.prog 6 #[.int .u64 f1, .int .u64 f2, .int .u64 st, .int .u64 n, .int .i64 k] w fun e w' => TrueKept w e w' := by
  have HS : Hid (st ≤ f1 ∧ f1 ≤ f2 ∧ f2 < n ∧ n < 18446744073709551616 ∧ (f1 - st) / 1024 = d1 ∧ (f2 - st) / 1024 = d ∧ (f2 - (st + 1024 * d1)) / 1024 = d2 ∧ k = r1 + d1 ∧ k = r + d ∧ r1 = r + d2 ∧ st + 1024 * d = sa ∧ st + 1024 * d1 + 1024 * d2 = sa ∧ st + 1024 * d1 ≤ f2 ∧ d1 + d2 = d) := ⟨h1, h2, h3, hn, hd1, hd, hd2, hr1, hr, hr2, hsa, hsa1, by omega, by omega⟩
  have hst : st ≤ sa := by omega
  have hrk : r ≤ k := by omega
  have hdk : d < k := by omega
  clear hd1 hd hd2 hr1 hr hr2 hsa hsa1
  go_enter Try.func6, Try.ntmps6
  go_wp2_with (first
    | (go_at_call 17; refine (c17 w k hk0 hk).mono ?_; rintro e w1 ⟨g0, f, rfl, h1'⟩; have H1 : Hid (S1 w w1 g0 k f) := h1'; clear h1')
    | (go_at_call 18; have HH := H1.out; refine (c18a HH hk0 hk).mono ?_; rintro e w2 ⟨g1, rfl, h1'⟩; have H2 : Hid (S2 w w2 g0 g1 k f) := h1'; clear h1' HH H1)
    | (go_at_call 18; have HH := H2.out; refine (c18b HH hk0 hk).mono ?_; rintro e w3 ⟨g2, rfl, h1'⟩; have H3 : Hid (St w w3 g0 g1 g2 k f f f) := h1'; clear h1' HH H2)
    | (go_at_call 19; have HH := H3.out; refine (c19a HH f1 st n).mono ?_; rintro e w4 ⟨L1, z1, rfl, h1'⟩; have H4 : Hid (T1 w w4 g0 g1 g2 L1 k f f f f1 k st n z1) := h1'; clear h1' HH H3)
    | (go_at_call 20; have HH := H4.out; refine (c20a HH r1 d1 (st + 1024 * d1) (trimF f r1 d1) hk HS.out.1 (by omega) HS.out.2.2.2.1 HS.out.2.2.2.2.1 (by have := HS.out.2.2.2.2.2.2.2.2.2.1; omega) HS.out.2.2.2.2.2.2.2.1 (Nat.le_refl _) rfl (fun _ _ => rfl)).mono ?_; rintro e w5 ⟨rfl, h1'⟩; have H5 : Hid (T1 w w5 g0 g1 g2 L1 k f (trimF f r1 d1) f f1 r1 (st + 1024 * d1) n z1) := h1'; clear h1' HH H4)
    | (go_at_call 22; have HH := H5.out; refine (c22 HH f2).mono ?_; rintro e w6 ⟨rfl, h1'⟩; have H6 : Hid (T1 w w6 g0 g1 g2 L1 k f (trimF f r1 d1) f f2 r1 (st + 1024 * d1) n z1) := h1'; clear h1' HH H5)
    | (go_at_call 20; have HH := H6.out; refine (c20a HH r d2 sa (trimF f r d) hk HS.out.2.2.2.2.2.2.2.2.2.2.2.2.1 h3 HS.out.2.2.2.1 HS.out.2.2.2.2.2.2.1 hr0 HS.out.2.2.2.2.2.2.2.2.2.1 (by have := HS.out.2.2.2.2.2.2.2.1; omega) HS.out.2.2.2.2.2.2.2.2.2.2.2.1 (fun i hi => trimF_twice f k r r1 d d1 d2 HS.out.2.2.2.2.2.2.2.1.symm HS.out.2.2.2.2.2.2.2.2.2.1.symm HS.out.2.2.2.2.2.2.2.2.2.2.2.2.2 i hi)).mono ?_; rintro e w7 ⟨rfl, h1'⟩; have H7 : Hid (T1 w w7 g0 g1 g2 L1 k f (trimF f r d) f f2 r sa n z1) := h1'; clear h1' HH H6)
    | (go_at_call 19; have HH := H7.out; refine (c19b HH st).mono ?_; rintro e w8 ⟨L2, z2, rfl, h1'⟩; have H8 : Hid (T2 w w8 g0 g1 g2 L1 L2 k f (trimF f r d) f f2 r sa k st n z1 z2) := h1'; clear h1' HH H7)
    | (go_at_call 20; have HH := H8.out; refine (c20c HH r d sa (trimF f r d) hk (by omega) h3 HS.out.2.2.2.1 HS.out.2.2.2.2.2.1 hr0 HS.out.2.2.2.2.2.2.2.2.1 (Nat.le_refl _) HS.out.2.2.2.2.2.2.2.2.2.2.1 (fun _ _ => rfl)).mono ?_; rintro e w9 ⟨rfl, h1'⟩; have H9 : Hid (T2 w w9 g0 g1 g2 L1 L2 k f (trimF f r d) (trimF f r d) f2 r sa r sa n z1 z2) := h1'; clear h1' HH H8)
    | (go_at_call 21; have HH := H9.out; refine (c21a HH).mono ?_; rintro e w10 ⟨rfl, h1'⟩; have H10 : Hid (T2 w w10 g0 g1 g2 L1 L2 k f (trimF f r d) (trimF f r d) f2 r sa r sa n z1 z2) := h1'; clear h1' HH H9)
    | (go_at_call 21; have HH := H10.out; refine (c21b HH).mono ?_; rintro e w11 ⟨rfl, h1'⟩; have H11 : Hid (T2 w w11 g0 g1 g2 L1 L2 k f (trimF f r d) (trimF f r d) f2 r sa r sa n z1 z2) := h1'; clear h1' HH H10))
  have HF : Hid (Fin w w11 g0 g1 g2 k d f (trimF f r d)) := ⟨H11.out.t.s, trimF_zero hr0⟩
  clear HS H11
  generalize trimF f r d = F at HF
  go_loopw [25] (fun i wr => ∃ j : Nat, j ≤ r ∧ i = .int .i64 j ∧ Fin w wr g0 g1 g2 k d f F) (fun i _ => r - (intOf i).toNat)
  case atStart => exact ⟨0, Nat.zero_le _, rfl, HF.out⟩
  case round =>
    obtain ⟨j, hj, rfl, hfin⟩ := hrel
    have HFI : Hid (Fin w wr g0 g1 g2 k d f F) := hfin
    clear HF hfin
    by_cases hlt : j < r
    · obtain ⟨p, ca, cb⟩ := HFI.out.both (j := j) (by omega)
      have hpn : ∀ w, (binOp .neq 44 (.pointer p) (.pointer p)).run Try.prog w = .ok (.bool false) w := fun w => ptr_neq w p
      go_wp2
      go_quiet (fail)
      go_wp2
      go_roundw
      case rel => exact ⟨j + 1, by omega, by go_num, HFI.out.drew _⟩
      case measure => simp [intOf]; omega
    · have hjr : j = r := by omega
      subst hjr
      clear hlt hj
      generalize wr = w12 at *
      go_wp2
      go_loopw [26] (fun i wr => ∃ j : Nat, j ≤ k ∧ i = .int .i64 j ∧ Fin w wr g0 g1 g2 k d f F) (fun i _ => k - (intOf i).toNat)
      case atStart => exact ⟨0, Nat.zero_le _, rfl, HFI.out⟩
      case round =>
        obtain ⟨i, hi, rfl, hfin⟩ := hrel
        clear HFI
        have HFI : Hid (Fin w wr g0 g1 g2 k d f F) := hfin
        clear hfin
        by_cases hlt : i < k
        · obtain ⟨p, ca, cb⟩ := HFI.out.both (j := i) (by omega)
          have hpn : ∀ w, (binOp .neq 44 (.pointer p) (.pointer p)).run Try.prog w = .ok (.bool false) w := fun w => ptr_neq w p
          go_wp2
          go_quiet (fail)
          go_wp2
          go_roundw
          case rel => exact ⟨i + 1, by omega, by go_num, HFI.out.drew _⟩
          case measure => simp [intOf]; omega
        · have hik : i = k := by omega
          subst hik
          obtain ⟨p, ca, cb⟩ := HFI.out.first hk0 hdk
          have hpe : ∀ w, (binOp .eql 44 (.pointer p) (.pointer p)).run Try.prog w = .ok (.bool true) w := fun w => ptr_eql w p
          clear hlt hi
          go_wp2
          go_quiet (fail)
          go_wp2
          go_ret
          refine ⟨rfl, (HFI.out.drew _).1.s1.2.2.2⟩
end Go.Proofs.Qxb6605272a
