/-
  DERIVED. count: the marking loops in plain words.
-/
import Derived.Test.Qxb6600940aCount1
namespace Go.Proofs.Qxb6600940a
open Go.RowKit

theorem taken_none (D c : Nat → Int) (n : Nat) : taken D c (fun _ => false) n = 0 := by
  unfold taken
  rw [sumR_congr n (g := fun _ => 0) (fun i _ => by simp), sumR_zero]

/-- Lists ahead of q are done (but l), and of list q the first p members. -/
structure PInv (I : Ix) (L : List (Nat × (Nat → Bool))) (mkd : Int) (l q p : Nat) (z : Int) (mk : Nat → Int) (M : Nat → Bool) : Prop where
  sum : z = wrap64 (total I.Dn I.n (L.map (·.2)) - taken I.Dn (cntIn (L.map (·.2))) M I.n)
  marks : ∀ i, i < I.n → (M i = true ↔ mk i = mkd)
  bounds : ∀ i, i < I.n → 0 ≤ mk i ∧ mk i ≤ mkd
  on : ∀ i, i < I.n → M i = true → ∃ j, j < L.length ∧ (L.getD j noL).2 i = true
  done : ∀ j, j < q → j ≠ l → ∀ i, i ∈ members (L.getD j noL).2 I.n → M i = true ∨ I.Dn i = 0
  part : ∀ r, r < p → M ((members (L.getD q noL).2 I.n).getD r 0) = true ∨ I.Dn ((members (L.getD q noL).2 I.n).getD r 0) = 0

section
variable {I : Ix} {L : List (Nat × (Nat → Bool))} {mkd : Int} {l q p : Nat} {z : Int} {mk : Nat → Int} {M : Nat → Bool}

theorem pinv_start (hz : z = wrap64 (total I.Dn I.n (L.map (·.2)))) (hmk : ∀ i, i < I.n → 0 ≤ mk i ∧ mk i < mkd) : PInv I L mkd l 0 0 z mk (fun _ => false) where
  sum := by rw [taken_none, hz]; congr 1; omega
  marks i hi := ⟨(fun h => by cases h), (fun h => by have := hmk i hi; omega)⟩
  bounds i hi := by have := hmk i hi; omega
  on i _ h := by cases h
  done j hj := by omega
  part r hr := by omega

theorem PInv.skip (h : PInv I L mkd l l 0 z mk M) : PInv I L mkd l (l + 1) 0 z mk M :=
  ⟨h.sum, h.marks, h.bounds, h.on, fun j hj hne => h.done j (by omega) hne, fun r hr => by omega⟩

theorem PInv.next (h : PInv I L mkd l q p z mk M) (hp : (members (L.getD q noL).2 I.n).length ≤ p) : PInv I L mkd l (q + 1) 0 z mk M :=
  ⟨h.sum, h.marks, h.bounds, h.on, fun j hj hne i hi => by
    by_cases e : j = q
    · subst e
      obtain ⟨r, hr, rfl⟩ := List.getElem_of_mem hi
      have := h.part r (by omega)
      rw [List.getD_eq_getElem?_getD, List.getElem?_eq_getElem hr] at this
      exact this
    · exact h.done j (by omega) hne i hi, fun r hr => by omega⟩

theorem member_at {P : Nat → Bool} {n r : Nat} (hr : r < (members P n).length) : (members P n).getD r 0 < n ∧ P ((members P n).getD r 0) = true := by
  have : (members P n).getD r 0 ∈ members P n := by
    rw [List.getD_eq_getElem?_getD, List.getElem?_eq_getElem hr]; exact List.getElem_mem hr
  exact mem_members.1 this

theorem PInv.pass (h : PInv I L mkd l q p z mk M) (hp : p < (members (L.getD q noL).2 I.n).length) (hi : I.Dn ((members (L.getD q noL).2 I.n).getD p 0) = 0 ∨ mk ((members (L.getD q noL).2 I.n).getD p 0) = mkd) : PInv I L mkd l q (p + 1) z mk M :=
  ⟨h.sum, h.marks, h.bounds, h.on, h.done, fun r hr => by
    by_cases e : r = p
    · subst e
      rcases hi with hi | hi
      · exact Or.inr hi
      · exact Or.inl ((h.marks _ (member_at hp).1).2 hi)
    · exact h.part r (by omega)⟩

theorem PInv.take (h : PInv I L mkd l q p z mk M) (hq : q < L.length) (hp : p < (members (L.getD q noL).2 I.n).length) (hne : mk ((members (L.getD q noL).2 I.n).getD p 0) ≠ mkd) (h0 : 0 ≤ mkd) :
    PInv I L mkd l q (p + 1) (wrap64 (z - wrap64 (I.Dn ((members (L.getD q noL).2 I.n).getD p 0) * (cntIn (L.map (·.2)) ((members (L.getD q noL).2 I.n).getD p 0) - 1)))) (fun j => if j = (members (L.getD q noL).2 I.n).getD p 0 then mkd else mk j) (setM M ((members (L.getD q noL).2 I.n).getD p 0)) := by
  obtain ⟨hin, hP⟩ := member_at hp
  generalize hgi : (members (L.getD q noL).2 I.n).getD p 0 = i at hin hP hne
  have hM : M i = false := by
    cases hM : M i with
    | false => rfl
    | true => exact absurd ((h.marks i hin).1 hM) hne
  refine ⟨?_, fun j hj => ?_, fun j hj => ?_, fun j hj hMj => ?_, fun j hj hnl k hk => ?_, fun r hr => ?_⟩
  · rw [taken_set _ _ _ _ _ hin hM, h.sum, wrap_sub', wrap_sub]
    congr 1; omega
  · unfold setM
    by_cases e : j = i
    · simp [e]
    · rw [if_neg e, if_neg e]; exact h.marks j hj
  · have := h.bounds j hj
    by_cases e : j = i
    · simp only [e, if_true]; omega
    · simp only [e, if_false]; exact this
  · by_cases e : j = i
    · subst e; exact ⟨q, hq, hP⟩
    · rw [setM, if_neg e] at hMj; exact h.on j hj hMj
  · by_cases e : k = i
    · left; simp [setM, e]
    · rw [setM, if_neg e]; exact h.done j hj hnl k hk
  · by_cases e : (members (L.getD q noL).2 I.n).getD r 0 = i
    · left; rw [e, setM, if_pos rfl]
    · rw [setM, if_neg e]
      by_cases er : r = p
      · subst er; exact absurd hgi e
      · exact h.part r (by omega)
end

end Go.Proofs.Qxb6600940a
