/-
  DERIVED. The law's calls, one contract each, over the state that they pass on.
-/
import Derived.Test.Qxb6605272aEarly
namespace Go.Proofs.Qxb6605272a
open Go.RowKit

def S1 (w W : World) (g0 k : Nat) (f : Nat → Value) : Prop := (∀ i, i < k → isP (f i)) ∧ W.rowIs g0 44 k f ∧ w.heap.size ≤ g0 ∧ Below w.heap.size w W
def S2 (w W : World) (g0 g1 k : Nat) (f : Nat → Value) : Prop := S1 w W g0 k f ∧ W.rowIs g1 44 k f ∧ g0 < g1
structure St (w W : World) (g0 g1 g2 k : Nat) (f F1 F2 : Nat → Value) : Prop where
  s1 : S1 w W g0 k f
  p1 : ∀ i, i < k → isP (F1 i)
  p2 : ∀ i, i < k → isP (F2 i)
  row1 : W.rowIs g1 44 k F1
  row2 : W.rowIs g2 44 k F2
  lt1 : g0 < g1
  lt2 : g1 < g2

theorem row_later {W W' : World} {b : Nat} {t : TypeId} {n : Nat} {f : Nat → Value} (hr : W.rowIs b t n f) (h : Below W.heap.size W W') : W'.rowIs b t n f := hr.of_block (h.block _ hr.lt)
theorem S1.later {w W W' : World} {g0 k : Nat} {f : Nat → Value} (h : S1 w W g0 k f) (hb : Below W.heap.size W W') : S1 w W' g0 k f :=
  ⟨h.1, row_later h.2.1 hb, h.2.2.1, h.2.2.2.trans (hb.mono h.2.2.2.size)⟩
theorem St.later {w W W' : World} {g0 g1 g2 k : Nat} {f F1 F2 : Nat → Value} (h : St w W g0 g1 g2 k f F1 F2) (hb : Below W.heap.size W W') : St w W' g0 g1 g2 k f F1 F2 :=
  ⟨h.s1.later hb, h.p1, h.p2, row_later h.row1 hb, row_later h.row2 hb, h.lt1, h.lt2⟩
theorem S1.kept {w W W' : World} {g0 k : Nat} {f : Nat → Value} {S : Nat → Prop} (h : S1 w W g0 k f) (hk : Kept S W W') (hS : ∀ b, S b → g0 < b) : S1 w W' g0 k f :=
  ⟨h.1, hk.row h.2.1 (fun x => Nat.lt_irrefl _ (hS _ x)), h.2.2.1, h.2.2.2.trans (hk.below _ (fun b hb => by have := hS b hb; have := h.2.2.1; omega))⟩

def C17 (w : World) (k : Nat) (e : Ending) (W : World) : Prop := ∃ g0 f, e = .returned (.slice (some ⟨g0, 0, none⟩) k k) ∧ S1 w W g0 k f
theorem c17 (w : World) (k : Nat) (hk0 : 0 < k) (hk : k ≤ 64) : Calls Try.prog 17 #[.int .i64 k] w fun e w' => C17 w k e w' :=
  (newChunks_any k w hk0 hk).mono fun _ _ ⟨f, hf, he, hr, hb⟩ => ⟨w.heap.size, f, he, hf, hr, Nat.le_refl _, hb⟩

def C18a (w : World) (g0 k : Nat) (f : Nat → Value) (e : Ending) (W : World) : Prop := ∃ g1, e = .returned (.slice (some ⟨g1, 0, none⟩) k k) ∧ S2 w W g0 g1 k f
theorem c18a {w W : World} {g0 k : Nat} {f : Nat → Value} (h : S1 w W g0 k f) (hk0 : 0 < k) (hk : k ≤ 64) : Calls Try.prog 18 #[.slice (some ⟨g0, 0, none⟩) k k] W fun e w' => C18a w g0 k f e w' :=
  (copyChunks_any g0 k f W h.1 h.2.1 hk0 hk).mono fun _ _ ⟨he, hr, hb⟩ => ⟨W.heap.size, he, h.later hb, hr, h.2.1.lt⟩

def C18b (w : World) (g0 g1 k : Nat) (f : Nat → Value) (e : Ending) (W : World) : Prop := ∃ g2, e = .returned (.slice (some ⟨g2, 0, none⟩) k k) ∧ St w W g0 g1 g2 k f f f
theorem c18b {w W : World} {g0 g1 k : Nat} {f : Nat → Value} (h : S2 w W g0 g1 k f) (hk0 : 0 < k) (hk : k ≤ 64) : Calls Try.prog 18 #[.slice (some ⟨g0, 0, none⟩) k k] W fun e w' => C18b w g0 g1 k f e w' :=
  (copyChunks_any g0 k f W h.1.1 h.1.2.1 hk0 hk).mono fun _ _ ⟨he, hr, hb⟩ => ⟨W.heap.size, he, h.1.later hb, h.1.1, h.1.1, row_later h.2.1 hb, hr, h.2.2, h.2.1.lt⟩

def Lg (W : World) (L fl g m k st n : Nat) (z : Nat → Value) : Prop := W.rowIs L 72 9 (logF fl (.slice (some ⟨g, 0, none⟩) m k) st n z)
/-- The state with the first log. -/
structure T1 (w W : World) (g0 g1 g2 L1 k : Nat) (f F1 F2 : Nat → Value) (fl m st n : Nat) (z : Nat → Value) : Prop where
  s : St w W g0 g1 g2 k f F1 F2
  lg : Lg W L1 fl g1 m k st n z
  lt : g2 < L1
/-- The state with both logs. -/
structure T2 (w W : World) (g0 g1 g2 L1 L2 k : Nat) (f F1 F2 : Nat → Value) (fl m1 st1 m2 st2 n : Nat) (z1 z2 : Nat → Value) : Prop where
  t : T1 w W g0 g1 g2 L1 k f F1 F2 fl m1 st1 n z1
  lg : Lg W L2 fl g2 m2 k st2 n z2
  lt : L1 < L2

def C19a (w : World) (g0 g1 g2 k f1 st n : Nat) (f : Nat → Value) (e : Ending) (W : World) : Prop := ∃ L1 z1, e = .returned (.pointer (some ⟨L1, 0, none⟩)) ∧ T1 w W g0 g1 g2 L1 k f f f f1 k st n z1
theorem c19a {w W : World} {g0 g1 g2 k : Nat} {f : Nat → Value} (h : St w W g0 g1 g2 k f f f) (f1 st n : Nat) : Calls Try.prog 19 #[.int .u64 f1, .slice (some ⟨g1, 0, none⟩) k k, .int .u64 st, .int .u64 n] W fun e w' => C19a w g0 g1 g2 k f1 st n f e w' :=
  (makeLog_any f1 st n _ _ _ W).mono fun _ _ ⟨z, he, hr, hb⟩ => ⟨W.heap.size, z, he, h.later hb, hr, h.row2.lt⟩

theorem St.trim1 {w W W' : World} {g0 g1 g2 L1 k : Nat} {f F1 F2 G : Nat → Value} (h : St w W g0 g1 g2 k f F1 F2) (hlt : g2 < L1) (hk : Kept (fun b => b = L1 ∨ b = g1) W W') (hr : W'.rowIs g1 44 k G) (hG : ∀ i, i < k → isP (G i)) : St w W' g0 g1 g2 k f G F2 :=
  ⟨h.s1.kept hk (by have := h.lt1; have := h.lt2; rintro b (rfl | rfl) <;> omega), hG, h.p2, hr, hk.row h.row2 (by have := h.lt2; rintro (e | e) <;> omega), h.lt1, h.lt2⟩

def C20a (w : World) (g0 g1 g2 L1 k : Nat) (f G F2 : Nat → Value) (fl r st n : Nat) (z : Nat → Value) (e : Ending) (W : World) : Prop := e = .returned (.tuple #[]) ∧ T1 w W g0 g1 g2 L1 k f G F2 fl r st n z
theorem c20a {w W : World} {g0 g1 g2 L1 k fl m st n : Nat} {f F1 F2 z : Nat → Value} (h : T1 w W g0 g1 g2 L1 k f F1 F2 fl m st n z) (r d st' : Nat) (G : Nat → Value) (hk : k ≤ 64) (hst : st ≤ fl) (hfl : fl < n) (hn : n < 18446744073709551616) (hd : (fl - st) / 1024 = d) (hr0 : 0 < r) (hm : m = r + d) (hmk : m ≤ k)
    (hst' : st + 1024 * d = st') (hG : ∀ i, i < k → trimF F1 r d i = G i) : Calls Try.prog 20 #[.pointer (some ⟨L1, 0, none⟩)] W fun e w' => C20a w g0 g1 g2 L1 k f G F2 fl r st' n z e w' := by
  subst hst'
  refine (zztrim_any L1 g1 fl st n m k r d F1 z W h.lg h.s.row1 h.s.p1 (by have := h.lt; have := h.s.lt2; omega) hst hfl hn hd hr0 hm hmk hk).mono fun e w' ⟨he, ⟨hL, hrow⟩, hkp⟩ => ⟨he, ⟨h.s.trim1 h.lt hkp (hrow.congr hG) (fun i hi => ?_), hL, h.lt⟩⟩
  rw [← hG i hi]
  exact trimF_isP h.s.p1 (by omega) i hi

theorem c22 {w W : World} {g0 g1 g2 L1 k fl m st n : Nat} {f F1 F2 z : Nat → Value} (h : T1 w W g0 g1 g2 L1 k f F1 F2 fl m st n z) (fl' : Nat) :
    Calls Try.prog 22 #[.pointer (some ⟨L1, 0, none⟩), .int .u64 fl'] W fun e w' => C20a w g0 g1 g2 L1 k f F1 F2 fl' m st n z e w' := by
  refine (setFloor_any L1 fl fl' st n (.slice (some ⟨g1, 0, none⟩) m k) z W h.lg).mono fun e w' ⟨he, hL, hkp⟩ => ⟨he, ⟨h.s.trim1 h.lt (hkp.mono (fun _ hb => Or.inl hb)) (hkp.row h.s.row1 ?_) h.s.p1, hL, h.lt⟩⟩
  have := h.lt; have := h.s.lt2
  intro e; omega

def C19b (w : World) (g0 g1 g2 L1 k : Nat) (f F1 F2 : Nat → Value) (fl m st1 st n : Nat) (z1 : Nat → Value) (e : Ending) (W : World) : Prop := ∃ L2 z2, e = .returned (.pointer (some ⟨L2, 0, none⟩)) ∧ T2 w W g0 g1 g2 L1 L2 k f F1 F2 fl m st1 k st n z1 z2
theorem c19b {w W : World} {g0 g1 g2 L1 k fl m st1 n : Nat} {f F1 F2 z : Nat → Value} (h : T1 w W g0 g1 g2 L1 k f F1 F2 fl m st1 n z) (st : Nat) :
    Calls Try.prog 19 #[.int .u64 fl, .slice (some ⟨g2, 0, none⟩) k k, .int .u64 st, .int .u64 n] W fun e w' => C19b w g0 g1 g2 L1 k f F1 F2 fl m st1 st n z e w' :=
  (makeLog_any fl st n _ _ _ W).mono fun _ _ ⟨z2, he, hr, hb⟩ => ⟨W.heap.size, z2, he, ⟨h.s.later hb, row_later h.lg hb, h.lt⟩, hr, h.lg.lt⟩

def C20c (w : World) (g0 g1 g2 L1 L2 k : Nat) (f F1 F2 : Nat → Value) (fl m1 st1 m2 st2 n : Nat) (z1 z2 : Nat → Value) (e : Ending) (W : World) : Prop := e = .returned (.tuple #[]) ∧ T2 w W g0 g1 g2 L1 L2 k f F1 F2 fl m1 st1 m2 st2 n z1 z2
theorem c20c {w W : World} {g0 g1 g2 L1 L2 k fl m1 st1 m2 st2 n : Nat} {f F1 F2 z1 z2 : Nat → Value} (h : T2 w W g0 g1 g2 L1 L2 k f F1 F2 fl m1 st1 m2 st2 n z1 z2) (r d st' : Nat) (G : Nat → Value) (hk : k ≤ 64) (hst : st2 ≤ fl) (hfl : fl < n) (hn : n < 18446744073709551616) (hd : (fl - st2) / 1024 = d) (hr0 : 0 < r) (hm : m2 = r + d) (hmk : m2 ≤ k)
    (hst' : st2 + 1024 * d = st') (hG : ∀ i, i < k → trimF F2 r d i = G i) : Calls Try.prog 20 #[.pointer (some ⟨L2, 0, none⟩)] W fun e w' => C20c w g0 g1 g2 L1 L2 k f F1 G fl m1 st1 r st' n z1 z2 e w' := by
  subst hst'
  have h1 := h.t.s.lt1; have h2 := h.t.s.lt2; have h3 := h.t.lt; have h4 := h.lt
  refine (zztrim_any L2 g2 fl st2 n m2 k r d F2 z2 W h.lg h.t.s.row2 h.t.s.p2 (by omega) hst hfl hn hd hr0 hm hmk hk).mono fun e w' ⟨he, ⟨hL, hrow⟩, hkp⟩ => ⟨he, ⟨⟨⟨h.t.s.s1.kept hkp (by rintro b (rfl | rfl) <;> omega), h.t.s.p1, fun i hi => ?_, hkp.row h.t.s.row1 (by rintro (e | e) <;> omega), hrow.congr hG, h1, h2⟩, hkp.row h.t.lg (by rintro (e | e) <;> omega), h3⟩, hL, h4⟩⟩
  rw [← hG i hi]
  exact trimF_isP h.t.s.p2 (by omega) i hi

def C21 (w : World) (g0 g1 g2 L1 L2 k : Nat) (f F1 F2 : Nat → Value) (fl m1 st1 m2 st2 n : Nat) (z1 z2 : Nat → Value) (g m st : Nat) (e : Ending) (W : World) : Prop :=
  e = .returned (.tuple #[.int .u64 fl, .slice (some ⟨g, 0, none⟩) m k, .int .u64 st, .int .u64 n]) ∧ T2 w W g0 g1 g2 L1 L2 k f F1 F2 fl m1 st1 m2 st2 n z1 z2
theorem T2.kept {w W W' : World} {g0 g1 g2 L1 L2 k fl m1 st1 m2 st2 n : Nat} {f F1 F2 z1 z2 : Nat → Value} (h : T2 w W g0 g1 g2 L1 L2 k f F1 F2 fl m1 st1 m2 st2 n z1 z2) (hk : Kept (fun _ => False) W W') : T2 w W' g0 g1 g2 L1 L2 k f F1 F2 fl m1 st1 m2 st2 n z1 z2 :=
  ⟨⟨⟨h.t.s.s1.kept hk (fun _ x => x.elim), h.t.s.p1, h.t.s.p2, hk.row h.t.s.row1 id, hk.row h.t.s.row2 id, h.t.s.lt1, h.t.s.lt2⟩, hk.row h.t.lg id, h.t.lt⟩, hk.row h.lg id, h.lt⟩
theorem c21a {w W : World} {g0 g1 g2 L1 L2 k fl m1 st1 m2 st2 n : Nat} {f F1 F2 z1 z2 : Nat → Value} (h : T2 w W g0 g1 g2 L1 L2 k f F1 F2 fl m1 st1 m2 st2 n z1 z2) :
    Calls Try.prog 21 #[.pointer (some ⟨L1, 0, none⟩)] W fun e w' => C21 w g0 g1 g2 L1 L2 k f F1 F2 fl m1 st1 m2 st2 n z1 z2 g1 m1 st1 e w' :=
  (parts_any L1 fl st1 n _ _ _ z1 W h.t.lg).mono fun _ _ ⟨he, hk⟩ => ⟨he, h.kept hk⟩
theorem c21b {w W : World} {g0 g1 g2 L1 L2 k fl m1 st1 m2 st2 n : Nat} {f F1 F2 z1 z2 : Nat → Value} (h : T2 w W g0 g1 g2 L1 L2 k f F1 F2 fl m1 st1 m2 st2 n z1 z2) :
    Calls Try.prog 21 #[.pointer (some ⟨L2, 0, none⟩)] W fun e w' => C21 w g0 g1 g2 L1 L2 k f F1 F2 fl m1 st1 m2 st2 n z1 z2 g2 m2 st2 e w' :=
  (parts_any L2 fl st2 n _ _ _ z2 W h.lg).mono fun _ _ ⟨he, hk⟩ => ⟨he, h.kept hk⟩

end Go.Proofs.Qxb6605272a
