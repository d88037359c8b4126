/-
  DERIVED. count: what its later loops read and write.
-/
import Derived.Test.Qxb6600940aCount0
namespace Go.Proofs.Qxb6600940a
open Go.RowKit

def noL : Nat × (Nat → Bool) := (0, fun _ => false)

section
variable {I : Ix} {W w : World} {sb : Nat} {sv : Value} {sc st : ByteArray} {marked : Int} {mk : Nat → Int} {la : Option Addr} {lc ln : Nat} {Ls : List (Nat × (Nat → Bool))}

/-- lists[j]. -/
theorem CS.list (h : CS I W w sb sv sc st marked mk (.slice la ln lc) Ls) {j : Nat} (hj : j < Ls.length) : ∃ g, la = some ⟨g, 0, none⟩ ∧ w.cell? ⟨g, j, none⟩ = some (.pointer (some ⟨(Ls.getD j noL).1, 0, none⟩)) := by
  have ho := h.1.own
  have hn : Ls.length = ln := by
    obtain ⟨_, _, e⟩ : ∃ la' lc', (Value.slice la ln lc) = .slice la' Ls.length lc' := by
      rcases ho.2 with ⟨h1, h2⟩ | ⟨g, cap, cur, h1, _⟩
      · exact ⟨none, 0, by rw [h1, h2]⟩
      · exact ⟨_, _, h1⟩
    injection e with _ e2
    exact e2.symm
  rcases ho.2 with ⟨_, h0⟩ | ⟨g, cap, cur, hv, _⟩
  · omega
  · injection hv with hv1 hv2 hv3
    subst hv1 hv3 hn
    refine ⟨g, rfl, ?_⟩
    rw [ho.cellAt j (by omega)]
    unfold ptrs
    rw [List.getElem?_map, List.getD_eq_getElem?_getD, List.getElem?_eq_getElem hj]
    rfl

theorem CS.newMark {lv : Value} (h : CS I W w sb sv sc st marked mk lv Ls) (hs : I.Stat W) (marked' : Int) : CS I W (w.setCell ⟨I.fb, 4, none⟩ (.int .i64 marked')) sb sv sc st marked' mk lv Ls :=
  ⟨h.1.newMark hs marked', h.2.1.setOther (a := ⟨I.fb, 4, none⟩) (by have := h.2.2.2; show sb ≠ I.fb; omega) _, h.2.2⟩

theorem CS.mark {lv : Value} (h : CS I W w sb sv sc st marked mk lv Ls) (hs : I.Stat W) {i : Nat} (hi : i < I.n) (v : Int) : CS I W (w.setCell ⟨I.bp i, 6, none⟩ (.int .i64 v)) sb sv sc st marked (fun j => if j = i then v else mk j) lv Ls :=
  ⟨h.1.mark hs hi v, h.2.1.setOther (a := ⟨I.bp i, 6, none⟩) (by have := h.2.2.2; have := hs.lo i hi; have := hs.fbS; show sb ≠ I.bp i; omega) _, h.2.2⟩
end

/-- Every list of the scope lies as it should. -/
theorem ll_good {I : Ix} {W : World} (hs : I.Stat W) (S : List ByteArray) (c x : ByteArray) : ∀ l ∈ I.ll S c x, I.ListAt W l.1 l.2 := by
  intro l hl
  unfold Ix.ll at hl
  rcases List.mem_append.1 hl with h | h
  · unfold Ix.tl at h
    obtain ⟨t, ht, rfl⟩ := List.mem_map.1 h
    rw [List.mem_filter] at ht
    exact hs.ltop t (by have := ht.2; simpa using this)
  · unfold Ix.sl at h
    split at h
    · cases h
    · rename_i hx
      split at h
      · cases h
      · rename_i hm
        rw [List.mem_singleton] at h
        subst h
        exact hs.lsub c x hx hm

theorem ll_len (I : Ix) (S : List ByteArray) (c x : ByteArray) : (I.ll S c x).length ≤ S.length + 1 := by
  unfold Ix.ll Ix.tl Ix.sl
  rw [List.length_append, List.length_map, List.take_length]
  have := List.length_filter_le (fun t => !(members (I.top t) I.n).isEmpty) S
  split
  · simp; omega
  · split <;> simp <;> omega

theorem getD_mem {L : List (Nat × (Nat → Bool))} {j : Nat} (hj : j < L.length) : L.getD j noL ∈ L := by
  rw [List.getD_eq_getElem?_getD, List.getElem?_eq_getElem hj]
  exact List.getElem_mem hj

/-- The sum of the first lists' deals, one more. -/
theorem total_take (D : Nat → Int) (n : Nat) (L : List (Nat × (Nat → Bool))) (j : Nat) (hj : j < L.length) : total D n ((L.take (j + 1)).map (·.2)) = total D n ((L.take j).map (·.2)) + dealsOf D (members (L.getD j noL).2 n) := by
  have e : L.getD j noL = L[j] := by rw [List.getD_eq_getElem?_getD, List.getElem?_eq_getElem hj]; rfl
  rw [List.take_succ_eq_append_getElem hj, List.map_append, e]
  unfold total
  rw [List.map_append, List.sum_append]
  simp

/-- The end of count, in plain words. -/
theorem count_end (I : Ix) (S : List ByteArray) (c x : ByteArray) (M : Nat → Bool) (l : Nat)
    (h1 : ∀ i, i < I.n → M i = true → ∃ j, j < (I.ll S c x).length ∧ ((I.ll S c x).getD j noL).2 i = true)
    (h2 : ∀ j, j < (I.ll S c x).length → j ≠ l → ∀ i, i ∈ members ((I.ll S c x).getD j noL).2 I.n → M i = true ∨ I.Dn i = 0) :
    total I.Dn I.n ((I.ll S c x).map (·.2)) - taken I.Dn (cntIn ((I.ll S c x).map (·.2))) M I.n = sumTo I.T I.C I.X I.D S c x I.n := by
  rw [sumTo_sumR I S c x I.n (Nat.le_refl _)]
  refine once I.Dn I.n _ M (fun i hi hM => ?_) (fun i hi hM => ?_)
  · obtain ⟨j, hj, hp⟩ := h1 i hi hM
    unfold cntIn
    have : ((I.ll S c x).getD j noL).2 ∈ ((I.ll S c x).map (·.2)).filter (fun p => p i) := List.mem_filter.2 ⟨List.mem_map.2 ⟨_, getD_mem hj, rfl⟩, hp⟩
    have := List.length_pos_of_mem this
    omega
  · by_cases hD : I.Dn i = 0
    · exact Or.inl hD
    · refine Or.inr (cnt_le_one _ i l (fun j hj hne => ?_))
      rw [List.length_map] at hj
      have e : ((I.ll S c x).map (·.2)).getD j (fun _ => false) = ((I.ll S c x).getD j noL).2 := by
        rw [List.getD_eq_getElem?_getD, List.getD_eq_getElem?_getD, List.getElem?_map, List.getElem?_eq_getElem hj]; rfl
      rw [e]
      cases hp : ((I.ll S c x).getD j noL).2 i with
      | false => rfl
      | true =>
        rcases h2 j hj hne i (mem_members.2 ⟨hi, hp⟩) with h | h
        · rw [hM] at h; cases h
        · exact absurd h hD

end Go.Proofs.Qxb6600940a
