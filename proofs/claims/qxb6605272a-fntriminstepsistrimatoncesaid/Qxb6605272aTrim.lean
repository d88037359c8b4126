/-
  DERIVED. (*itemLog).trim: what it leaves.
-/
import Derived.Test.Qxb6605272aWalkA
namespace Go.Proofs.Qxb6605272a
open Go.RowKit

def trimF (f : Nat → Value) (r d : Nat) : Nat → Value := fun i => if i < r then f (i + d) else if i < r + d then .pointer none else f i

theorem tdivN (x d : Nat) (h : x / 1024 = d) : (x : Int).tdiv 1024 = (d : Int) := by
  rw [Int.tdiv_eq_ediv_of_nonneg (by omega)]; omega

/-- The facts on slices that the walk of trim uses. -/
theorem trim_slices (g r d m k : Nat) (hm : m = r + d) (hd0 : 0 < d) (hr0 : 0 < r) (hmk : m ≤ k) :
    (∀ w : World, (Instr.slice 36 (.slice (some ⟨g, 0, none⟩) m k) (some (.int .u64 d)) none none).run Try.prog w = .ok (.slice (some ⟨g, d, none⟩) r (k - d)) w) ∧
    (∀ w : World, (Instr.slice 36 (.slice (some ⟨g, 0, none⟩) m k) (some (.int .i64 r)) none none).run Try.prog w = .ok (.slice (some ⟨g, r, none⟩) d (k - r)) w) ∧
    (∀ w : World, (Instr.slice 36 (.slice (some ⟨g, 0, none⟩) m k) none (some (.int .i64 r)) none).run Try.prog w = .ok (.slice (some ⟨g, 0, none⟩) r k) w) := by
  subst hm
  refine ⟨fun w => ?_, fun w => ?_, fun w => ?_⟩
  · rw [run_slice_l (P := Try.prog) w 36 _ _ _ Try.underlying36 .u64 d (by omega) (by omega)]
    have : k ≠ d := by omega
    simp [go_sem, this, Addr.add]
    omega
  · rw [run_slice_l (P := Try.prog) w 36 _ _ _ Try.underlying36 .i64 r (by omega) (by omega)]
    have : k ≠ r := by omega
    simp [go_sem, this, Addr.add]
    omega
  · rw [run_slice_h (P := Try.prog) w 36 _ _ _ Try.underlying36 .i64 r (by omega) (by omega)]
    simp [go_sem, Addr.add]

theorem trim_copy (g r d m k : Nat) (f : Nat → Value) (w : World) (hm : m = r + d) (hmk : m ≤ k) (hg : w.rowIs g 44 k f) (hf : ∀ i, i < k → isP (f i)) :
    ∃ cs : List Value, cs.length = r ∧ (∀ i, i < r → cs[i]? = some (f (i + d))) ∧
      ∀ (ty : TypeId) (nq : Nat), (Builtin.copy_ #[36, 36] ty #[.slice (some ⟨g, 0, none⟩) m k, .slice (some ⟨g, d, none⟩) r (k - d)]).run Try.prog (w.drewN nq) = .ok (.int .i64 r) ((w.drewN nq).setCells g 0 cs) := by
  obtain ⟨cs, hcs⟩ : ∃ cs : List Value, cs = (List.range r).map (fun i => f (i + d)) := ⟨_, rfl⟩
  have hcl : cs.length = r := by rw [hcs]; simp
  refine ⟨cs, hcl, fun i hi => by rw [hcs, List.getElem?_map, List.getElem?_range hi]; rfl, fun ty nq => ?_⟩
  have hg : (w.drewN nq).rowIs g 44 k f := hg
  have := run_copy_cells (P := Try.prog) (w.drewN nq) 36 36 ty 44 g 0 m k ⟨g, d, none⟩ r (k - d) cs Try.underlying36 (by kernel_rfl) (by rw [hcl]; exact (Nat.min_eq_left (by omega)).symm) (fun j v hv => by
      have hj : j < r := by rw [← hcl]; exact (List.getElem?_eq_some_iff.1 hv).1
      rw [hcs, List.getElem?_map, List.getElem?_range hj] at hv
      have e : f (j + d) = v := by simpa using hv
      rw [← e, Nat.add_comm j d]
      have e2 : (⟨g, d, none⟩ : Addr).add j = ⟨g, d + j, none⟩ := by
        simp only [Addr.add]; split <;> simp_all
      rw [e2]
      exact hg.cell (i := d + j) (by omega)) (fun j hj => by
      have : (w.drewN nq).cell? ⟨g, 0 + j, none⟩ = some (f (0 + j)) := hg.cell (i := 0 + j) (by omega)
      rw [this]; rfl) (fun j _ => hg.frozen _) (fun v hv => by
      rw [hcs] at hv
      obtain ⟨i, hi, rfl⟩ := List.mem_map.1 hv
      exact isP_one (hf _ (by have := List.mem_range.1 hi; omega)))
  rw [hcl] at this
  exact this

theorem trim_clear (L g r d m k : Nat) (f F : Nat → Value) (w : World) (cs : List Value) (hcl : cs.length = r) (hcs : ∀ i, i < r → cs[i]? = some (f (i + d))) (hm : m = r + d) (hd0 : 0 < d) (hmk : m ≤ k) (hLg : L ≠ g)
    (hg : w.rowIs g 44 k f) (hL : w.rowIs L 72 9 F) :
    (∀ (ty : TypeId), (Builtin.clear_ #[36] ty #[.slice (some ⟨g, r, none⟩) d (k - r)]).run Try.prog (w.setCells g 0 cs) = .ok (.tuple #[]) ((w.setCells g 0 cs).setCells g r (List.replicate d (.pointer none)))) ∧
    (w.setCells g 0 cs).rowIs L 72 9 F ∧ ((w.setCells g 0 cs).setCells g r (List.replicate d (.pointer none))).rowIs L 72 9 F ∧
    ((w.setCells g 0 cs).setCells g r (List.replicate d (.pointer none))).rowIs g 44 k (trimF f r d) := by
  have h1 := rowIs_setCells cs 0 w f hg
  have h2 := rowIs_setCells (List.replicate d (.pointer none)) r _ _ h1
  have l1 := rowIs_setCells_other hLg cs 0 w hL
  have l2 := rowIs_setCells_other hLg (List.replicate d (.pointer none)) r _ l1
  refine ⟨fun ty => ?_, l1, l2, h2.congr (fun i hi => ?_)⟩
  · have hi44 := Try.info44
    exact Lib.run_clear_slice (P := Try.prog) _ 36 44 ty (.pointer none) Try.underlying36 (fun w => by
      cases hq : Try.prog.info? 44 with
      | none => rw [hq] at hi44; simp at hi44
      | some i => rw [hq] at hi44; simp at hi44; simp [zeroValue, typeInfo, hq, hi44.1]) rfl rfl g r d (k - r) hd0
      (fun j hj => by rw [h1.cell (i := r + j) (by omega)]; rfl) (fun j _ => h1.frozen _)
  · subst hcl hm
    simp only [trimF, List.length_replicate]
    by_cases ha : i < cs.length
    · rw [if_neg (by omega), if_pos (by omega), if_pos ha, Nat.sub_zero, hcs i ha]; rfl
    · rw [if_neg ha]
      by_cases hb : i < cs.length + d
      · rw [if_pos (by omega), if_pos hb, List.getElem?_replicate, if_pos (by omega)]; rfl
      · rw [if_neg (by omega), if_neg (by omega), if_neg hb]

set_option maxRecDepth 100000 in
set_option maxHeartbeats 400000 in
theorem trim1 (L g fl st n m k r d : Nat) (f z : Nat → Value) (w : World) (hL : w.rowIs L 72 9 (logF fl (.slice (some ⟨g, 0, none⟩) m k) st n z)) (hg : w.rowIs g 44 k f) (hf : ∀ i, i < k → isP (f i)) (hLg : L ≠ g) (hst : st ≤ fl) (hfl : fl < n) (hn : n < 18446744073709551616) (hd : (fl - st) / 1024 = d) (hd0 : 0 < d) (hr0 : 0 < r) (hm : m = r + d) (hmk : m ≤ k) (hk : k ≤ 64) :
    Calls Try.prog 33 #[.pointer (some ⟨L, 0, none⟩)] w fun e w' => RetDone (fun b => b = L ∨ b = g) w (fun w' => w'.rowIs L 72 9 (logF fl (.slice (some ⟨g, 0, none⟩) r k) (st + 1024 * d) n z) ∧ w'.rowIs g 44 k (trimF f r d)) e w' := by
  have c5 : w.cell? ⟨L, 5, none⟩ = some (.int .u64 fl) := hL.cell (i := 5) (by omega)
  have c6 : w.cell? ⟨L, 6, none⟩ = some (.slice (some ⟨g, 0, none⟩) m k) := hL.cell (i := 6) (by omega)
  have c7 : w.cell? ⟨L, 7, none⟩ = some (.int .u64 st) := hL.cell (i := 7) (by omega)
  have c8 : w.cell? ⟨L, 8, none⟩ = some (.int .u64 n) := hL.cell (i := 8) (by omega)
  have hne : (fl : Int) ≠ n := by omega
  obtain ⟨x, hx⟩ : ∃ x, x = fl - st := ⟨_, rfl⟩
  have hw : IntKind.u64.wrap ((fl : Int) - st) = (x : Int) := by rw [IntKind.wrap]; simp [IntKind.bits]; omega
  rw [← hx] at hd
  have hst2 : st + 1024 * d ≤ fl := by omega
  clear hx
  have hq := tdivN x d hd
  obtain ⟨hs1, hs2, hs3⟩ := trim_slices g r d m k hm hd0 hr0 hmk
  obtain ⟨cs, hcl, hcs, hcopy⟩ := trim_copy g r d m k f w hm hmk hg hf
  have HTC : Hid (∀ nq, _) := fun nq => trim_clear L g r d m k f _ (w.drewN nq) cs hcl hcs hm hd0 hmk hLg hg hL
  have hclear : ∀ (ty : TypeId) (nq : Nat), (Builtin.clear_ #[36] ty #[.slice (some ⟨g, r, none⟩) d (k - r)]).run Try.prog ((w.drewN nq).setCells g 0 cs) = .ok (.tuple #[]) (((w.drewN nq).setCells g 0 cs).setCells g r (List.replicate d (.pointer none))) := fun ty nq => (HTC.out nq).1 ty
  have b6 : ∀ nq, ((w.drewN nq).setCells g 0 cs).cell? ⟨L, 6, none⟩ = some (.slice (some ⟨g, 0, none⟩) m k) := fun nq => (HTC.out nq).2.1.cell (i := 6) (by omega)
  have d6 : ∀ nq, (((w.drewN nq).setCells g 0 cs).setCells g r (List.replicate d (.pointer none))).cell? ⟨L, 6, none⟩ = some (.slice (some ⟨g, 0, none⟩) m k) := fun nq => (HTC.out nq).2.2.1.cell (i := 6) (by omega)
  have d7 : ∀ nq, (((w.drewN nq).setCells g 0 cs).setCells g r (List.replicate d (.pointer none))).cell? ⟨L, 7, none⟩ = some (.int .u64 st) := fun nq => (HTC.out nq).2.2.1.cell (i := 7) (by omega)
  have g6 : ∀ nq, (((w.drewN nq).setCells g 0 cs).setCells g r (List.replicate d (.pointer none))).frozen? ⟨L, 6, none⟩ = false := fun nq => (HTC.out nq).2.2.1.frozen 6
  have g7 : ∀ nq, (((w.drewN nq).setCells g 0 cs).setCells g r (List.replicate d (.pointer none))).frozen? ⟨L, 7, none⟩ = false := fun nq => (HTC.out nq).2.2.1.frozen 7
  obtain ⟨Z, hZ⟩ : ∃ Z : List Value, Z = List.replicate d (.pointer none) := ⟨_, rfl⟩
  rw [← hZ] at HTC hclear d6 d7 g6 g7
  have HM : Hid (m = r + d) := hm
  have hrm : r < m := by omega
  have hdm : d < m := by omega
  have HL : Hid (w.rowIs L 72 9 (logF fl (.slice (some ⟨g, 0, none⟩) m k) st n z)) := hL
  have HG : Hid (w.rowIs g 44 k f) := hg
  clear hL hg hd hf hm hcl hcs hZ
  go_enter Try.func33, Try.ntmps33
  go_wp2
  go_quiet (fail)
  go_wp2
  go_quiet (fail)
  go_wp2
  go_region
  go_wp2
  go_end0
  have hv : (Value.int IntKind.u64 (↑st + ↑d * 1024)) = .int .u64 ((st + 1024 * d : Nat) : Int) := by
    have : ((st + 1024 * d : Nat) : Int) = (st : Int) + (d : Int) * 1024 := by omega
    rw [this]
  rw [hv]
  refine ⟨rfl, ⟨(((HTC.out _).2.2.1.set 6 _).set 7 _).congr (fun i _ => ?_), ((HTC.out _).2.2.2.setOther (a := ⟨L, 6, none⟩) (fun e => hLg e.symm) _).setOther (a := ⟨L, 7, none⟩) (fun e => hLg e.symm) _⟩,
    (((Kept.setCells g (Or.inr rfl) Z r _ (Kept.setCells g (Or.inr rfl) cs 0 _ ((Kept.refl _ w).drewN _))).setCell ⟨L, 6, none⟩ (Or.inl rfl) _).setCell ⟨L, 7, none⟩ (Or.inl rfl) _)⟩
  by_cases e7 : i = 7
  · rw [if_pos e7]; simp [logF, e7]
  · rw [if_neg e7]
    by_cases e6 : i = 6
    · rw [if_pos e6]; simp [logF, e6]
    · rw [if_neg e6]; simp [logF, e6, e7]

set_option maxRecDepth 100000 in
theorem trim0 (L g fl st n m k : Nat) (z : Nat → Value) (w : World) (hL : w.rowIs L 72 9 (logF fl (.slice (some ⟨g, 0, none⟩) m k) st n z)) (hst : st ≤ fl) (hfl : fl < n) (_ : n < 18446744073709551616) (hd : (fl - st) / 1024 = 0) :
    Calls Try.prog 33 #[.pointer (some ⟨L, 0, none⟩)] w fun e w' => RetDone (fun _ => False) w (fun _ => True) e w' := by
  have c5 : w.cell? ⟨L, 5, none⟩ = some (.int .u64 fl) := hL.cell (i := 5) (by omega)
  have c7 : w.cell? ⟨L, 7, none⟩ = some (.int .u64 st) := hL.cell (i := 7) (by omega)
  have c8 : w.cell? ⟨L, 8, none⟩ = some (.int .u64 n) := hL.cell (i := 8) (by omega)
  clear hL
  have hne : (fl : Int) ≠ n := by omega
  obtain ⟨x, hx⟩ : ∃ x, x = fl - st := ⟨_, rfl⟩
  have hw : IntKind.u64.wrap ((fl : Int) - st) = (x : Int) := by rw [IntKind.wrap]; simp [IntKind.bits]; omega
  rw [← hx] at hd
  clear hx
  have hq := tdivN x 0 hd
  go_enter Try.func33, Try.ntmps33
  go_wp2
  go_quiet (fail)
  go_wp2
  go_quiet (fail)
  go_wp2
  go_end0
  exact ⟨rfl, trivial, (Kept.refl _ _).drewN _⟩

/-- trim, whatever it drops: the log and the row behind it. -/
theorem trim_any (L g fl st n m k r d : Nat) (f z : Nat → Value) (w : World) (hL : w.rowIs L 72 9 (logF fl (.slice (some ⟨g, 0, none⟩) m k) st n z)) (hg : w.rowIs g 44 k f) (hf : ∀ i, i < k → isP (f i)) (hLg : L ≠ g) (hst : st ≤ fl) (hfl : fl < n) (hn : n < 18446744073709551616) (hd : (fl - st) / 1024 = d) (hr0 : 0 < r) (hm : m = r + d) (hmk : m ≤ k) (hk : k ≤ 64) :
    Calls Try.prog 33 #[.pointer (some ⟨L, 0, none⟩)] w fun e w' => RetDone (fun b => b = L ∨ b = g) w (fun w' => w'.rowIs L 72 9 (logF fl (.slice (some ⟨g, 0, none⟩) r k) (st + 1024 * d) n z) ∧ w'.rowIs g 44 k (trimF f r d)) e w' := by
  by_cases hd0 : 0 < d
  · exact trim1 L g fl st n m k r d f z w hL hg hf hLg hst hfl hn hd hd0 hr0 hm hmk hk
  · obtain rfl : d = 0 := by omega
    obtain rfl : m = r := by omega
    refine (trim0 L g fl st n m k z w hL hst hfl hn hd).mono fun e w' ⟨he, _, hk'⟩ => ⟨he, ⟨hk'.row hL id, (hk'.row hg id).congr (fun i _ => ?_)⟩, hk'.mono (fun _ h => h.elim)⟩
    simp [trimF]; omega

def TrimPost (w : World) (L g fl k st n r d : Nat) (f z : Nat → Value) (e : Ending) (w' : World) : Prop :=
  RetDone (fun b => b = L ∨ b = g) w (fun w' => w'.rowIs L 72 9 (logF fl (.slice (some ⟨g, 0, none⟩) r k) (st + 1024 * d) n z) ∧ w'.rowIs g 44 k (trimF f r d)) e w'

theorem zztrim_any (L g fl st n m k r d : Nat) (f z : Nat → Value) (w : World) (hL : w.rowIs L 72 9 (logF fl (.slice (some ⟨g, 0, none⟩) m k) st n z)) (hg : w.rowIs g 44 k f) (hf : ∀ i, i < k → isP (f i)) (hLg : L ≠ g) (hst : st ≤ fl) (hfl : fl < n) (hn : n < 18446744073709551616) (hd : (fl - st) / 1024 = d) (hr0 : 0 < r) (hm : m = r + d) (hmk : m ≤ k) (hk : k ≤ 64) :
    Calls Try.prog 20 #[.pointer (some ⟨L, 0, none⟩)] w fun e w' => TrimPost w L g fl k st n r d f z e w' := by
  have HT' : Hid (Calls Try.prog 33 #[.pointer (some ⟨L, 0, none⟩)] w fun e w' => TrimPost w L g fl k st n r d f z e w') := trim_any L g fl st n m k r d f z w hL hg hf hLg hst hfl hn hd hr0 hm hmk hk
  clear hL hg hf hLg hst hfl hn hd hr0 hm hmk hk
  go_enter Try.func20, Try.ntmps20
  go_wp2_with ((go_at_call 33; refine HT'.out.mono ?_; rintro e w' ⟨rfl, hw⟩))
  go_end0
  exact ⟨rfl, hw⟩
end Go.Proofs.Qxb6605272a
