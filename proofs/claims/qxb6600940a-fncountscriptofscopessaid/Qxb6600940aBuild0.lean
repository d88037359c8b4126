/-
  DERIVED. Build: what its loops pass on.
-/
import Derived.Test.Qxb6600940aSide
namespace Go.Proofs.Qxb6600940a
open Go.RowKit Go.Maps

/-- A bundle's cells. -/
def bfc (C X : List ByteArray) (tv : Nat → Value) (D : List Int) (i : Nat) (mk : Int) : Nat → Value := fun j => if j = 0 then .string ⟨#[]⟩ else if j = 1 then .string (C.getD i ⟨#[]⟩) else if j = 2 then .string (X.getD i ⟨#[]⟩) else if j = 3 then tv i else if j = 4 then .slice none 0 0 else if j = 5 then .int .i64 (D.getD i 0) else .int .i64 mk

/-- The first i bundles are made. -/
structure L1 (w wr : World) (n : Nat) (C X : List ByteArray) (D : List Int) (tv : Nat → Value) (i : Nat) : Prop where
  below : Below w.heap.size w wr
  size : wr.heap.size = w.heap.size + 1 + i
  row : wr.rowIs w.heap.size 45 n (fun j => if j < i then .pointer (some ⟨w.heap.size + 1 + j, 0, none⟩) else .pointer none)
  b : ∀ j, j < i → wr.rowIs (w.heap.size + 1 + j) 52 7 (bfc C X tv D j 0)

theorem l1_start (w : World) (n : Nat) (C X : List ByteArray) (D : List Int) (tv : Nat → Value) : L1 w (w.alloc (.cells (madeCells #[.pointer none] n) 45)) n C X D tv 0 :=
  ⟨(Below.refl _ _).alloc (Nat.le_refl _) _, by show (w.heap.push _).size = _; rw [Array.size_push], (World.rowIs_made w _ n 45).congr (fun j _ => by simp), fun j hj => absurd hj (Nat.not_lt_zero _)⟩

theorem L1.drew {w wr : World} {n : Nat} {C X : List ByteArray} {D : List Int} {tv : Nat → Value} {i : Nat} (h : L1 w wr n C X D tv i) : L1 w wr.drew n C X D tv i :=
  ⟨h.below.drew, h.size, h.row, h.b⟩

theorem L1.step {w wr : World} {n : Nat} {C X : List ByteArray} {D : List Int} {tv : Nat → Value} {i : Nat} (h : L1 w wr n C X D tv i) {a : Option Addr} {ln c : Nat} (ht : tv i = .slice a ln c) :
    L1 w ((wr.alloc (.cells (bundleCells a ln c (C.getD i ⟨#[]⟩) (X.getD i ⟨#[]⟩) (D.getD i 0)) 52)).setCell ⟨w.heap.size, i, none⟩ (.pointer (some ⟨w.heap.size + 1 + i, 0, none⟩))) n C X D tv (i + 1) := by
  have hsz : (wr.alloc (.cells (bundleCells a ln c (C.getD i ⟨#[]⟩) (X.getD i ⟨#[]⟩) (D.getD i 0)) 52)).heap.size = w.heap.size + 1 + (i + 1) := by
    show (wr.heap.push _).size = _; rw [Array.size_push, h.size]; omega
  have hle : w.heap.size ≤ wr.heap.size := by have := h.size; omega
  refine ⟨(h.below.alloc hle _).setCell (Nat.le_refl _) _, ?_, ?_, fun j hj => ?_⟩
  · rw [← hsz]; simp [World.setCell]
  · refine ((h.row.alloc _).set i _).congr (fun j _ => ?_)
    by_cases e : j = i
    · subst e; simp
    · rw [if_neg e]
      by_cases hlt : j < i
      · rw [if_pos hlt, if_pos (by omega)]
      · rw [if_neg hlt, if_neg (by omega)]
  · by_cases e : j < i
    · exact ((h.b j e).alloc _).setOther (a := ⟨w.heap.size, i, none⟩) (by show w.heap.size + 1 + j ≠ w.heap.size; omega) _
    · have : j = i := by omega
      subst this
      have hr := World.rowIs_alloc wr (bundleCells a ln c (C.getD j ⟨#[]⟩) (X.getD j ⟨#[]⟩) (D.getD j 0)) 52 (bfc C X tv D j 0) (fun k hk => by
        have hk' : k < 7 := hk
        have : k = 0 ∨ k = 1 ∨ k = 2 ∨ k = 3 ∨ k = 4 ∨ k = 5 ∨ k = 6 := by omega
        rcases this with rfl | rfl | rfl | rfl | rfl | rfl | rfl <;> simp [bundleCells, bfc, ht])
      rw [h.size] at hr
      exact hr.setOther (a := ⟨w.heap.size, j, none⟩) (by show w.heap.size + 1 + j ≠ w.heap.size; omega) _

def dlOf {κ : Type} [DecidableEq κ] (Dn : Nat → Int) (Q : List (κ × Nat)) (t : κ) : Int := wrap64 (dealsOf Dn (memOf Q t))

theorem dlOf_snoc {κ : Type} [DecidableEq κ] (Dn : Nat → Int) (Q : List (κ × Nat)) (t : κ) (i : Nat) : dlOf Dn (Q ++ [(t, i)]) = fun x => if x = t then wrap64 (dlOf Dn Q t + Dn i) else dlOf Dn Q x := by
  funext x
  by_cases e : x = t
  · subst e
    rw [if_pos rfl]
    unfold dlOf
    rw [memOf_snoc_same, dealsOf_append, wrap_add]
    congr 1
    simp [dealsOf]
  · rw [if_neg e]; unfold dlOf; rw [memOf_snoc_other _ e]

theorem memOf_snoc {κ : Type} [DecidableEq κ] (Q : List (κ × Nat)) (t : κ) (i : Nat) : memOf (Q ++ [(t, i)]) = fun x => if x = t then memOf Q t ++ [i] else memOf Q x := by
  funext x
  by_cases e : x = t
  · subst e; rw [if_pos rfl, memOf_snoc_same]
  · rw [if_neg e, memOf_snoc_other _ e]

/-- The top side and the subject side, gathered so far. -/
def TS (F : Nat → Row) (bp : Nat → Nat) (v0 v1 v2 v3 : Value) (K : List ByteArray) (M : ByteArray → List Nat) (dl : ByteArray → Int) : Prop := Side F 0 9 1 cellsT bp v0 v1 v2 v3 K M dl
def SS (F : Nat → Row) (bp : Nat → Nat) (v0 v1 v2 v3 : Value) (K : List (ByteArray × ByteArray)) (M : ByteArray × ByteArray → List Nat) (dl : ByteArray × ByteArray → Int) : Prop := Side F 4 66 2 cellsS bp v0 v1 v2 v3 K M dl

/-- The state at the head of a round. -/
def Gath (W1 w : World) (bp : Nat → Nat) (Dn : Nat → Int) (QT : List (ByteArray × Nat)) (QS : List ((ByteArray × ByteArray) × Nat)) (a0 a1 a2 a3 b0 b1 b2 b3 : Value) : Prop :=
  ∃ F, BS W1 w F (keysOf QT) (keysOf QS) ∧ TS F bp a0 a1 a2 a3 (keysOf QT) (memOf QT) (dlOf Dn QT) ∧ SS F bp b0 b1 b2 b3 (keysOf QS) (memOf QS) (dlOf Dn QS)

/-- The state once the key t has its place k. -/
def GathT (W1 w : World) (bp : Nat → Nat) (Dn : Nat → Int) (QT : List (ByteArray × Nat)) (QS : List ((ByteArray × ByteArray) × Nat)) (a0 a1 a2 a3 b0 b1 b2 b3 : Value) (t : ByteArray) (k : Nat) : Prop :=
  ∃ F, (addKey (keysOf QT) t)[k]? = some t ∧ BS W1 w F (addKey (keysOf QT) t) (keysOf QS) ∧ TS F bp a0 a1 a2 a3 (addKey (keysOf QT) t) (memOf QT) (dlOf Dn QT) ∧ SS F bp b0 b1 b2 b3 (keysOf QS) (memOf QS) (dlOf Dn QS)
def GathS (W1 w : World) (bp : Nat → Nat) (Dn : Nat → Int) (QT : List (ByteArray × Nat)) (QS : List ((ByteArray × ByteArray) × Nat)) (a0 a1 a2 a3 b0 b1 b2 b3 : Value) (t : ByteArray × ByteArray) (k : Nat) : Prop :=
  ∃ F, (addKey (keysOf QS) t)[k]? = some t ∧ BS W1 w F (keysOf QT) (addKey (keysOf QS) t) ∧ TS F bp a0 a1 a2 a3 (keysOf QT) (memOf QT) (dlOf Dn QT) ∧ SS F bp b0 b1 b2 b3 (addKey (keysOf QS) t) (memOf QS) (dlOf Dn QS)

theorem idxOf_get {κ : Type} [DecidableEq κ] {K : List κ} {t : κ} (h : t ∈ K) : K[idx K t]? = some t := by
  unfold idx
  rw [List.getElem?_eq_getElem (List.idxOf_lt_length_of_mem h)]
  rw [List.getElem_idxOf]

theorem nodup_addKey {κ : Type} [DecidableEq κ] {K : List κ} (h : K.Nodup) (t : κ) : (addKey K t).Nodup := by
  unfold addKey
  split
  · exact h
  · rename_i hn
    rw [List.nodup_append]
    exact ⟨h, List.nodup_cons.2 ⟨by simp, List.nodup_nil⟩, fun x hx y hy e => hn (by rw [List.mem_singleton] at hy; rw [← hy, ← e]; exact hx)⟩

section
variable {W1 w w' : World} {bp : Nat → Nat} {Dn : Nat → Int} {QT : List (ByteArray × Nat)} {QS : List ((ByteArray × ByteArray) × Nat)} {a0 a1 a2 a3 b0 b1 b2 b3 : Value}

theorem Gath.later (h : Gath W1 w bp Dn QT QS a0 a1 a2 a3 b0 b1 b2 b3) (hb : Below w.heap.size w w') : Gath W1 w' bp Dn QT QS a0 a1 a2 a3 b0 b1 b2 b3 := by
  obtain ⟨F, h1, h2, h3⟩ := h; exact ⟨F, h1.later hb, h2, h3⟩
theorem GathT.later {t : ByteArray} {k : Nat} (h : GathT W1 w bp Dn QT QS a0 a1 a2 a3 b0 b1 b2 b3 t k) (hb : Below w.heap.size w w') : GathT W1 w' bp Dn QT QS a0 a1 a2 a3 b0 b1 b2 b3 t k := by
  obtain ⟨F, h0, h1, h2, h3⟩ := h; exact ⟨F, h0, h1.later hb, h2, h3⟩
theorem GathS.later {t : ByteArray × ByteArray} {k : Nat} (h : GathS W1 w bp Dn QT QS a0 a1 a2 a3 b0 b1 b2 b3 t k) (hb : Below w.heap.size w w') : GathS W1 w' bp Dn QT QS a0 a1 a2 a3 b0 b1 b2 b3 t k := by
  obtain ⟨F, h0, h1, h2, h3⟩ := h; exact ⟨F, h0, h1.later hb, h2, h3⟩

/-- The key is there already. -/
theorem Gath.oldT (h : Gath W1 w bp Dn QT QS a0 a1 a2 a3 b0 b1 b2 b3) {t : ByteArray} (ht : t ∈ keysOf QT) : GathT W1 w bp Dn QT QS a0 a1 a2 a3 b0 b1 b2 b3 t (idx (keysOf QT) t) := by
  obtain ⟨F, h1, h2, h3⟩ := h
  have e : addKey (keysOf QT) t = keysOf QT := if_pos ht
  exact ⟨F, by rw [e]; exact idxOf_get ht, by rw [e]; exact h1, by rw [e]; exact h2, h3⟩
theorem Gath.oldS (h : Gath W1 w bp Dn QT QS a0 a1 a2 a3 b0 b1 b2 b3) {t : ByteArray × ByteArray} (ht : t ∈ keysOf QS) : GathS W1 w bp Dn QT QS a0 a1 a2 a3 b0 b1 b2 b3 t (idx (keysOf QS) t) := by
  obtain ⟨F, h1, h2, h3⟩ := h
  have e : addKey (keysOf QS) t = keysOf QS := if_pos ht
  exact ⟨F, by rw [e]; exact idxOf_get ht, by rw [e]; exact h1, h2, by rw [e]; exact h3⟩

theorem dlOf_new {κ : Type} [DecidableEq κ] {Q : List (κ × Nat)} {t : κ} (h : t ∉ keysOf Q) : dlOf Dn Q t = 0 := by
  unfold dlOf; rw [memOf_not h]; simp [dealsOf, wrap64]

theorem other_withKey {F : Nat → Row} {bp : Nat → Nat} {v0 v1 v2 v3 : Value} {κ : Type} {o o' : Nat} {ke ke' : TypeId} {ks ks' : Nat} {kc : κ → List Value} {K : List κ} {M : κ → List Nat} {dl : κ → Int} (h : Side F o ke ks kc bp v0 v1 v2 v3 K M dl) (ho : o = 0 ∧ o' = 4 ∨ o = 4 ∧ o' = 0) (u0 u1 u2 u3 : Value) (n : Nat) (x0 x1 x2 x3 : List Value) :
    Side (withKey F o' ke' ks' u0 u1 u2 u3 n x0 x1 x2 x3) o ke ks kc bp v0 v1 v2 v3 K M dl := by
  refine h.congr ?_ ?_ ?_ ?_ (fun k => ?_) <;>
  · unfold withKey
    rw [upd_ne _ _ (by try unfold mtag
                       omega), upd_ne _ _ (by try unfold mtag
                                              omega), upd_ne _ _ (by try unfold mtag
                                                                     omega), upd_ne _ _ (by try unfold mtag
                                                                                            omega)]

/-- A new key has its place. -/
theorem newT {F : Nat → Row} {t : ByteArray} (ht : t ∉ keysOf QT) (h2 : TS F bp a0 a1 a2 a3 (keysOf QT) (memOf QT) (dlOf Dn QT)) (h3 : SS F bp b0 b1 b2 b3 (keysOf QS) (memOf QS) (dlOf Dn QS)) {u0 u1 u2 u3 : Value}
    (h1 : BS W1 w (withKey F 0 9 1 u0 u1 u2 u3 ((keysOf QT).length + 1) ((F 0).xs ++ [.string t]) ((F 1).xs ++ [nilV]) ((F 2).xs ++ [intV 0]) ((F 3).xs ++ [intV 0])) (keysOf QT ++ [t]) (keysOf QS)) :
    GathT W1 w bp Dn QT QS u0 u1 u2 u3 b0 b1 b2 b3 t (keysOf QT).length := by
  have e : addKey (keysOf QT) t = keysOf QT ++ [t] := if_neg ht
  refine ⟨_, ?_, by rw [e]; exact h1, ?_, ?_⟩
  · rw [e]; simp
  · rw [e]; exact Side.newKey h2 (by omega) t (memOf_not ht) (dlOf_new ht) u0 u1 u2 u3
  · exact other_withKey h3 (Or.inr ⟨rfl, rfl⟩) _ _ _ _ _ _ _ _ _
theorem newS {F : Nat → Row} {t : ByteArray × ByteArray} (ht : t ∉ keysOf QS) (h2 : TS F bp a0 a1 a2 a3 (keysOf QT) (memOf QT) (dlOf Dn QT)) (h3 : SS F bp b0 b1 b2 b3 (keysOf QS) (memOf QS) (dlOf Dn QS)) {u0 u1 u2 u3 : Value}
    (h1 : BS W1 w (withKey F 4 66 2 u0 u1 u2 u3 ((keysOf QS).length + 1) ((F 4).xs ++ [.string t.1, .string t.2]) ((F 5).xs ++ [nilV]) ((F 6).xs ++ [intV 0]) ((F 7).xs ++ [intV 0])) (keysOf QT) (keysOf QS ++ [t])) :
    GathS W1 w bp Dn QT QS a0 a1 a2 a3 u0 u1 u2 u3 t (keysOf QS).length := by
  have e : addKey (keysOf QS) t = keysOf QS ++ [t] := if_neg ht
  refine ⟨_, ?_, by rw [e]; exact h1, ?_, ?_⟩
  · rw [e]; simp
  · exact other_withKey h2 (Or.inl ⟨rfl, rfl⟩) _ _ _ _ _ _ _ _ _
  · rw [e]; exact Side.newKey h3 (by omega) t (memOf_not ht) (dlOf_new ht) u0 u1 u2 u3
end

end Go.Proofs.Qxb6600940a
