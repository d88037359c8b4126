/-
  DERIVED. Held as it is built, in plain words.
-/
import Derived.Test.Qxb6603051aPlace
import Derived.Test.Qxb6603051aFits
namespace Go.Proofs.Qxb6603051a
open Go.RowKit Go.Maps

/-- The table of the first i entries. -/
def tabR (A : List ByteArray) (V : List Int) : Nat → ByteArray → Int
  | 0 => fun _ => 0
  | i + 1 => gupd (tabR A V i) (A.getD i ByteArray.empty) (V.getD i 0)
def rowF (ks : List ByteArray) (ns : List Int) : Nat → ByteArray → Int
  | 0 => fun _ => 0
  | j + 1 => gupd (rowF ks ns j) (ks.getD j ByteArray.empty) (ns.getD j 0)
def tabF (A : List ByteArray) (K : List (List ByteArray)) (N : List (List Int)) : Nat → ByteArray → ByteArray → Int
  | 0 => fun _ _ => 0
  | i + 1 => folUpd (tabF A K N i) (A.getD i ByteArray.empty) (rowF (K.getD i []) (N.getD i []) (K.getD i []).length)

theorem getD_ne {A : List ByteArray} (hA : A.Nodup) {i j : Nat} (hi : i < A.length) (hj : j < A.length) (h : i ≠ j) : A.getD i ByteArray.empty ≠ A.getD j ByteArray.empty := by
  rw [List.getD_eq_getElem?_getD, List.getElem?_eq_getElem hi, List.getD_eq_getElem?_getD, List.getElem?_eq_getElem hj]
  intro e
  exact h ((List.getElem_inj hA).1 e)
theorem getD_in {A : List ByteArray} {i : Nat} (hi : i < A.length) : A.getD i ByteArray.empty ∈ A := by
  rw [List.getD_eq_getElem?_getD, List.getElem?_eq_getElem hi]; exact List.getElem_mem hi
theorem in_getD {A : List ByteArray} {x : ByteArray} (h : x ∈ A) : ∃ i, i < A.length ∧ A.getD i ByteArray.empty = x := by
  obtain ⟨i, hi, e⟩ := List.getElem_of_mem h
  exact ⟨i, hi, by rw [List.getD_eq_getElem?_getD, List.getElem?_eq_getElem hi]; exact e⟩

theorem tabR_at {A : List ByteArray} (hA : A.Nodup) (V : List Int) : ∀ m, m ≤ A.length → ∀ i, i < m → tabR A V m (A.getD i ByteArray.empty) = V.getD i 0
  | 0, _, i, hi => absurd hi (Nat.not_lt_zero _)
  | m + 1, hm, i, hi => by
    by_cases e : i = m
    · subst e; exact gupd_same _ _ _
    · show gupd (tabR A V m) (A.getD m ByteArray.empty) (V.getD m 0) (A.getD i ByteArray.empty) = _
      rw [gupd_other _ _ (getD_ne hA (by omega) (by omega) e)]
      exact tabR_at hA V m (by omega) i (by omega)
theorem tabR_out {A : List ByteArray} (V : List Int) {x : ByteArray} : ∀ m, m ≤ A.length → x ∉ A.take m → tabR A V m x = 0
  | 0, _, _ => rfl
  | m + 1, hm, h => by
    rw [take_snoc A ByteArray.empty m (by omega)] at h
    have h1 : x ≠ A.getD m ByteArray.empty := fun e => h (by rw [e]; simp)
    show gupd (tabR A V m) (A.getD m ByteArray.empty) (V.getD m 0) x = 0
    rw [gupd_other _ _ h1]
    exact tabR_out V m (by omega) (fun h' => h (by simp [h']))
theorem rowF_at {A : List ByteArray} (hA : A.Nodup) (V : List Int) : ∀ m, m ≤ A.length → ∀ i, i < m → rowF A V m (A.getD i ByteArray.empty) = V.getD i 0
  | 0, _, i, hi => absurd hi (Nat.not_lt_zero _)
  | m + 1, hm, i, hi => by
    by_cases e : i = m
    · subst e; exact gupd_same _ _ _
    · show gupd (rowF A V m) (A.getD m ByteArray.empty) (V.getD m 0) (A.getD i ByteArray.empty) = _
      rw [gupd_other _ _ (getD_ne hA (by omega) (by omega) e)]
      exact rowF_at hA V m (by omega) i (by omega)
theorem rowF_out {A : List ByteArray} (V : List Int) {x : ByteArray} : ∀ m, m ≤ A.length → x ∉ A.take m → rowF A V m x = 0
  | 0, _, _ => rfl
  | m + 1, hm, h => by
    rw [take_snoc A ByteArray.empty m (by omega)] at h
    have h1 : x ≠ A.getD m ByteArray.empty := fun e => h (by rw [e]; simp)
    show gupd (rowF A V m) (A.getD m ByteArray.empty) (V.getD m 0) x = 0
    rw [gupd_other _ _ h1]
    exact rowF_out V m (by omega) (fun h' => h (by simp [h']))
theorem tabF_at {A : List ByteArray} (hA : A.Nodup) (K : List (List ByteArray)) (N : List (List Int)) : ∀ m, m ≤ A.length → ∀ i, i < m → tabF A K N m (A.getD i ByteArray.empty) = rowF (K.getD i []) (N.getD i []) (K.getD i []).length
  | 0, _, i, hi => absurd hi (Nat.not_lt_zero _)
  | m + 1, hm, i, hi => by
    by_cases e : i = m
    · subst e; exact if_pos rfl
    · show folUpd (tabF A K N m) (A.getD m ByteArray.empty) (rowF (K.getD m []) (N.getD m []) (K.getD m []).length) (A.getD i ByteArray.empty) = _
      unfold folUpd
      rw [if_neg (getD_ne hA (by omega) (by omega) e)]
      exact tabF_at hA K N m (by omega) i (by omega)
theorem tabF_out {A : List ByteArray} (K : List (List ByteArray)) (N : List (List Int)) {x : ByteArray} : ∀ m, m ≤ A.length → x ∉ A.take m → tabF A K N m x = fun _ => 0
  | 0, _, _ => rfl
  | m + 1, hm, h => by
    rw [take_snoc A ByteArray.empty m (by omega)] at h
    have h1 : x ≠ A.getD m ByteArray.empty := fun e => h (by rw [e]; simp)
    show folUpd (tabF A K N m) (A.getD m ByteArray.empty) _ x = _
    unfold folUpd
    rw [if_neg h1]
    exact tabF_out K N m (by omega) (fun h' => h (by simp [h']))

def absOf (A : List ByteArray) (R L : List Int) (K : List (List ByteArray)) (N : List (List Int)) (m : Nat) : Abs := ⟨tabR A R m, tabR A L m, tabF A K N m⟩

def inRange (z : Int) : Prop := -9223372036854775808 ≤ z ∧ z ≤ 9223372036854775807
theorem ranged_gupd {g : ByteArray → Int} (h : Ranged g) (x : ByteArray) {z : Int} (hz : inRange z) : Ranged (gupd g x z) := fun y => by
  unfold gupd
  split
  · unfold wrap64 inRange at *; omega
  · exact h y
theorem ranged_tabR (A : List ByteArray) {V : List Int} (hV : ∀ i, inRange (V.getD i 0)) : ∀ m, Ranged (tabR A V m)
  | 0 => fun _ => by show wrap64 0 = 0; unfold wrap64; omega
  | m + 1 => ranged_gupd (ranged_tabR A hV m) _ (hV m)
theorem ranged_rowF (A : List ByteArray) {V : List Int} (hV : ∀ i, inRange (V.getD i 0)) : ∀ m, Ranged (rowF A V m)
  | 0 => fun _ => by show wrap64 0 = 0; unfold wrap64; omega
  | m + 1 => ranged_gupd (ranged_rowF A hV m) _ (hV m)
theorem ranged_tabF (A : List ByteArray) (K : List (List ByteArray)) {N : List (List Int)} (hN : ∀ i j, inRange ((N.getD i []).getD j 0)) : ∀ m i, Ranged (tabF A K N m i)
  | 0, _ => fun _ => by show wrap64 0 = 0; unfold wrap64; omega
  | m + 1, i => by
    show Ranged (folUpd (tabF A K N m) (A.getD m ByteArray.empty) (rowF (K.getD m []) (N.getD m []) (K.getD m []).length) i)
    unfold folUpd
    split
    · exact ranged_rowF _ (hN m) _
    · exact ranged_tabF A K hN m i
theorem absOf_ok {A : List ByteArray} {R L : List Int} {K : List (List ByteArray)} {N : List (List Int)} (hR : ∀ i, inRange (R.getD i 0)) (hL : ∀ i, inRange (L.getD i 0)) (hN : ∀ i j, inRange ((N.getD i []).getD j 0)) (m : Nat) : (absOf A R L K N m).Ok :=
  ⟨ranged_tabR A hR m, ranged_tabR A hL m, ranged_tabF A K hN m⟩

theorem nodup_le : ∀ {A B : List ByteArray}, A.Nodup → B.Nodup → (∀ x, x ∈ A → x ∈ B) → A.length ≤ B.length
  | [], B, _, _, _ => Nat.zero_le _
  | a :: A, B, hA, hB, h => by
    rw [List.nodup_cons] at hA
    have ha : inB a B = true := inB_iff.2 (h a (by simp))
    have h1 := nodup_le hA.2 (nodup_del hB a) (fun x hx => inB_iff.1 (by
      rw [inB_del]
      have h2 : inB x B = true := inB_iff.2 (h x (by simp [hx]))
      have h3 : x ≠ a := fun e => hA.1 (by rw [← e]; exact hx)
      simp [h2, h3]))
    rw [del_len hB, ha] at h1
    have h4 : 0 < B.length := List.length_pos_of_mem (inB_iff.1 ha)
    simp only [if_true] at h1
    rw [List.length_cons]
    omega
theorem nodup_eq {A B : List ByteArray} (hA : A.Nodup) (hB : B.Nodup) (h : ∀ x, x ∈ A ↔ x ∈ B) : A.length = B.length :=
  Nat.le_antisymm (nodup_le hA hB (fun x hx => (h x).1 hx)) (nodup_le hB hA (fun x hx => (h x).2 hx))

theorem row_good {ks : List ByteArray} {ns : List Int} (hk : ks.Nodup) (hn : ∀ j, j < ks.length → ns.getD j 0 ≠ 0) : Good ks (rowF ks ns ks.length) := fun x => by
  rw [inB_iff]
  constructor
  · intro hx
    obtain ⟨i, hi, rfl⟩ := in_getD hx
    rw [rowF_at hk ns _ (Nat.le_refl _) i hi]
    exact hn i hi
  · intro hne
    exact Classical.not_not.1 fun hx => hne (rowF_out ns _ (Nat.le_refl _) (by rw [List.take_length]; exact hx))

section
variable {w w' : World} {hb n : Nat} {s : Abs} {fm : ByteArray → Option Nat} {ld : ByteArray} {mb : Option Nat} {g : ByteArray → Int}
theorem HH.shut2 (h : HH w hb n s fm ld mb g) (r l : Int) (hs : SetTo w hb (n + 1) (gupd s.R ld r) (gupd s.L ld l) (fupd fm ld mb) w') : HS w' hb (n + 1) ⟨gupd s.R ld r, gupd s.L ld l, folUpd s.F ld g⟩ (fupd fm ld mb) := by
  have h' : HH w hb n ⟨gupd s.R ld r, s.L, s.F⟩ fm ld mb g → True := fun _ => trivial
  obtain ⟨n', dom, h1, h2, h3⟩ := hs
  refine ⟨⟨n', dom, h1, h2⟩, fun i => ?_, fun i b e => ?_, fun i j b e e' => ?_⟩
  · show FV w' (fupd fm ld mb i) (n + 1) (folUpd s.F ld g i)
    unfold fupd folUpd
    by_cases ei : i = ld
    · rw [if_pos ei, if_pos ei]
      exact (h.own.mono (by omega)).of_block (fun b e => h3.block b (h.own.lt e) (by have := h.upm b e; simp; omega))
    · rw [if_neg ei, if_neg ei]
      exact ((h.fol i ei).mono (by omega)).of_block (fun b e => h3.block b ((h.fol i ei).lt e) (by have := h.up i b e; simp; omega))
  · unfold fupd at e
    by_cases ei : i = ld
    · rw [if_pos ei] at e; exact h.upm b e
    · rw [if_neg ei] at e; exact h.up i b e
  · unfold fupd at e e'
    by_cases ei : i = ld
    · by_cases ej : j = ld
      · rw [ei, ej]
      · rw [if_pos ei] at e; rw [if_neg ej] at e'; exact absurd e (h.apart j b ej e')
    · by_cases ej : j = ld
      · rw [if_neg ei] at e; rw [if_pos ej] at e'; exact absurd e' (h.apart i b ei e)
      · rw [if_neg ei] at e; rw [if_neg ej] at e'; exact h.inj i j b e e'
end

end Go.Proofs.Qxb6603051a
