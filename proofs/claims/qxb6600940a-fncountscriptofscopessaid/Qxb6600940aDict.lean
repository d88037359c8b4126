/-
  DERIVED. Build in plain words: keys in the order in which they come, and the bundles under each.
-/
import Derived.Test.Qxb6600940aIdx
namespace Go.Proofs.Qxb6600940a
open Go.RowKit

section
variable {κ : Type} [DecidableEq κ]

def addKey (K : List κ) (t : κ) : List κ := if t ∈ K then K else K ++ [t]
/-- The keys of the pairs Q, each once, in the order in which they come. -/
def keysOf (Q : List (κ × Nat)) : List κ := Q.foldl (fun K p => addKey K p.1) []
/-- The bundles under the key t. -/
def memOf (Q : List (κ × Nat)) (t : κ) : List Nat := (Q.filter (fun p => decide (p.1 = t))).map (·.2)

theorem keysOf_snoc (Q : List (κ × Nat)) (t : κ) (i : Nat) : keysOf (Q ++ [(t, i)]) = addKey (keysOf Q) t := by
  unfold keysOf; rw [List.foldl_append]; rfl
theorem memOf_append (Q R : List (κ × Nat)) (t : κ) : memOf (Q ++ R) t = memOf Q t ++ memOf R t := by
  unfold memOf; rw [List.filter_append, List.map_append]
theorem memOf_one_same (t : κ) (i : Nat) : memOf [(t, i)] t = [i] := by simp [memOf]
theorem memOf_one_other {t u : κ} (h : u ≠ t) (i : Nat) : memOf [(t, i)] u = [] := by
  simp [memOf, Ne.symm h]
theorem memOf_snoc_same (Q : List (κ × Nat)) (t : κ) (i : Nat) : memOf (Q ++ [(t, i)]) t = memOf Q t ++ [i] := by rw [memOf_append, memOf_one_same]
theorem memOf_snoc_other (Q : List (κ × Nat)) {t u : κ} (h : u ≠ t) (i : Nat) : memOf (Q ++ [(t, i)]) u = memOf Q u := by rw [memOf_append, memOf_one_other h, List.append_nil]

theorem mem_addKey {K : List κ} {t u : κ} : u ∈ addKey K t ↔ u ∈ K ∨ u = t := by
  unfold addKey
  split
  · constructor
    · exact Or.inl
    · rintro (h | rfl)
      · exact h
      · assumption
  · simp

theorem snoc_induction {α : Type} {p : List α → Prop} (h0 : p []) (h1 : ∀ l a, p l → p (l ++ [a])) (l : List α) : p l := by
  have : ∀ r : List α, p r.reverse := by
    intro r
    induction r with
    | nil => exact h0
    | cons a r ih => rw [List.reverse_cons]; exact h1 _ _ ih
  rw [← List.reverse_reverse l]; exact this _

theorem nodup_keysOf (Q : List (κ × Nat)) : (keysOf Q).Nodup := by
  refine snoc_induction (p := fun Q => (keysOf Q).Nodup) List.nodup_nil (fun l a ih => ?_) Q
  show (keysOf (l ++ [(a.1, a.2)])).Nodup
  rw [keysOf_snoc]
  unfold addKey
  split
  · exact ih
  · rename_i h
    rw [List.nodup_append]
    exact ⟨ih, List.nodup_cons.2 ⟨by simp, List.nodup_nil⟩, fun x hx y hy e => h (by rw [List.mem_singleton] at hy; rw [← hy, ← e]; exact hx)⟩

theorem mem_keysOf (Q : List (κ × Nat)) (t : κ) : t ∈ keysOf Q ↔ memOf Q t ≠ [] := by
  refine snoc_induction (p := fun Q => t ∈ keysOf Q ↔ memOf Q t ≠ []) (by simp [keysOf, memOf]) (fun l a ih => ?_) Q
  show t ∈ keysOf (l ++ [(a.1, a.2)]) ↔ memOf (l ++ [(a.1, a.2)]) t ≠ []
  rw [keysOf_snoc, mem_addKey, ih]
  by_cases e : t = a.1
  · subst e; rw [memOf_snoc_same]; simp
  · rw [memOf_snoc_other _ e]; simp [e]

theorem memOf_not {Q : List (κ × Nat)} {t : κ} (h : t ∉ keysOf Q) : memOf Q t = [] := by
  cases hm : memOf Q t with
  | nil => rfl
  | cons a l => exact absurd ((mem_keysOf Q t).2 (by rw [hm]; simp)) h

theorem keysOf_len (Q : List (κ × Nat)) : (keysOf Q).length ≤ Q.length := by
  refine snoc_induction (p := fun Q => (keysOf Q).length ≤ Q.length) (Nat.le_refl _) (fun l a ih => ?_) Q
  show (keysOf (l ++ [(a.1, a.2)])).length ≤ _
  rw [keysOf_snoc, List.length_append]
  unfold addKey
  split
  · omega
  · rw [List.length_append]; simp only [List.length_cons, List.length_nil]; omega
theorem memOf_len (Q : List (κ × Nat)) (t : κ) : (memOf Q t).length ≤ Q.length := by
  unfold memOf; rw [List.length_map]; exact List.length_filter_le _ _
end

/-- The pairs of the tops. -/
def topQ (T : List (List ByteArray)) (n : Nat) : List (ByteArray × Nat) := (List.range n).flatMap (fun i => (T.getD i []).map (fun t => (t, i)))
theorem topQ_succ (T : List (List ByteArray)) (n : Nat) : topQ T (n + 1) = topQ T n ++ (T.getD n []).map (fun t => (t, n)) := by
  unfold topQ; rw [List.range_succ, List.flatMap_append]; simp
/-- The pairs of the subjects. -/
def subQ (C X : List ByteArray) (n : Nat) : List ((ByteArray × ByteArray) × Nat) := (List.range n).flatMap (fun i => if X.getD i ⟨#[]⟩ = ⟨#[]⟩ then [] else [((C.getD i ⟨#[]⟩, X.getD i ⟨#[]⟩), i)])
theorem subQ_succ (C X : List ByteArray) (n : Nat) : subQ C X (n + 1) = subQ C X n ++ if X.getD n ⟨#[]⟩ = ⟨#[]⟩ then [] else [((C.getD n ⟨#[]⟩, X.getD n ⟨#[]⟩), n)] := by
  unfold subQ; rw [List.range_succ, List.flatMap_append]; simp

theorem members_succ (p : Nat → Bool) (n : Nat) : members p (n + 1) = members p n ++ if p n then [n] else [] := by
  unfold members; rw [List.range_succ, List.filter_append]
  cases h : p n <;> simp [h]

theorem memOf_row (t : ByteArray) (i : Nat) : ∀ (l : List ByteArray), l.Nodup → memOf (l.map (fun t => (t, i))) t = if inB t l then [i] else []
  | [], _ => by simp [memOf, inB]
  | a :: l, h => by
    rw [List.nodup_cons] at h
    have ih := memOf_row t i l h.2
    have : memOf ((a :: l).map (fun t => (t, i))) t = memOf [(a, i)] t ++ memOf (l.map (fun t => (t, i))) t := by rw [← memOf_append]; rfl
    rw [this, ih]
    by_cases e : t = a
    · subst e
      have h1 : inB t l = false := by
        cases hb : inB t l with
        | false => rfl
        | true => exact absurd (inB_iff.1 hb) h.1
      have h2 : inB t (t :: l) = true := inB_iff.2 (by simp)
      rw [memOf_one_same, h1, h2]; rfl
    · rw [memOf_one_other e]
      have : inB t (a :: l) = inB t l := by
        rw [Bool.eq_iff_iff, inB_iff, inB_iff]; simp [e]
      rw [this]; rfl

theorem memOf_topQ (T : List (List ByteArray)) (t : ByteArray) : ∀ n, (∀ i, i < n → (T.getD i []).Nodup) → memOf (topQ T n) t = members (fun i => inB t (T.getD i [])) n
  | 0, _ => rfl
  | n + 1, h => by
    rw [topQ_succ, memOf_append, memOf_topQ T t n (fun i hi => h i (by omega)), memOf_row t n _ (h n (by omega)), members_succ]

theorem memOf_subQ (C X : List ByteArray) (c x : ByteArray) (hx : x ≠ ⟨#[]⟩) : ∀ n, memOf (subQ C X n) (c, x) = members (fun i => shares (C.getD i ⟨#[]⟩) (X.getD i ⟨#[]⟩) c x) n
  | 0 => rfl
  | n + 1 => by
    rw [subQ_succ, memOf_append, memOf_subQ C X c x hx n, members_succ]
    congr 1
    by_cases h0 : X.getD n ⟨#[]⟩ = ⟨#[]⟩
    · rw [if_pos h0]
      have : shares (C.getD n ⟨#[]⟩) (X.getD n ⟨#[]⟩) c x = false := by
        unfold shares; rw [h0]; simp [hx, Ne.symm hx]
      rw [this]; rfl
    · rw [if_neg h0]
      by_cases e : (c, x) = (C.getD n ⟨#[]⟩, X.getD n ⟨#[]⟩)
      · have e1 : C.getD n ⟨#[]⟩ = c := by have := congrArg Prod.fst e; exact this.symm
        have e2 : X.getD n ⟨#[]⟩ = x := by have := congrArg Prod.snd e; exact this.symm
        rw [e1, e2, memOf_one_same]
        have : shares c x c x = true := by simp [shares, hx]
        rw [this]; rfl
      · rw [memOf_one_other e]
        have : shares (C.getD n ⟨#[]⟩) (X.getD n ⟨#[]⟩) c x = false := by
          cases hs : shares (C.getD n ⟨#[]⟩) (X.getD n ⟨#[]⟩) c x with
          | false => rfl
          | true =>
            exfalso
            apply e
            simp only [shares, Bool.and_eq_true, decide_eq_true_eq] at hs
            simp_all
        rw [this]; rfl

theorem Asc.nodup {S : List ByteArray} (h : Asc S) : S.Nodup := by
  have := h.pairwise
  exact this.imp (fun {a b} h e => by subst e; rw [slt_irrefl] at h; cases h)

theorem topQ_len (T : List (List ByteArray)) : ∀ n, (topQ T n).length = ((List.range n).map (fun i => (T.getD i []).length)).sum
  | 0 => rfl
  | n + 1 => by rw [topQ_succ, List.length_append, topQ_len T n, List.range_succ, List.map_append, List.sum_append]; simp
theorem subQ_len (C X : List ByteArray) : ∀ n, (subQ C X n).length ≤ n
  | 0 => Nat.le_refl _
  | n + 1 => by
    rw [subQ_succ, List.length_append]
    have := subQ_len C X n
    split
    · simp only [List.length_nil]; omega
    · simp only [List.length_cons, List.length_nil]; omega

end Go.Proofs.Qxb6600940a
