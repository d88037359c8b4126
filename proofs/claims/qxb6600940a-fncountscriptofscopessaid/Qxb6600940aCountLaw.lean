/-
  DERIVED. The plain law of count: the lists of a scope, each reached bundle once.
-/
import Derived.Test.Qxb6600940aIdx
namespace Go.Proofs.Qxb6600940a
open Go.RowKit

namespace Ix
/-- The lists under the first k tops of the scope. -/
def tl (I : Ix) (S : List ByteArray) (k : Nat) : List (Nat × (Nat → Bool)) := ((S.take k).filter (fun t => !(members (I.top t) I.n).isEmpty)).map (fun t => (I.lt t, I.top t))
/-- The list under the scope's subject. -/
def sl (I : Ix) (c x : ByteArray) : List (Nat × (Nat → Bool)) := if x = ⟨#[]⟩ then [] else if members (I.sub c x) I.n = [] then [] else [(I.ls c x, I.sub c x)]
def ll (I : Ix) (S : List ByteArray) (c x : ByteArray) : List (Nat × (Nat → Bool)) := I.tl S S.length ++ I.sl c x
end Ix

theorem mem_members {p : Nat → Bool} {n i : Nat} : i ∈ members p n ↔ i < n ∧ p i = true := by
  unfold members; rw [List.mem_filter, List.mem_range]

theorem tl_succ (I : Ix) (S : List ByteArray) (k : Nat) (hk : k < S.length) :
    I.tl S (k + 1) = I.tl S k ++ if members (I.top (S.getD k ByteArray.empty)) I.n = [] then [] else [(I.lt (S.getD k ByteArray.empty), I.top (S.getD k ByteArray.empty))] := by
  have e : S.getD k ByteArray.empty = S[k] := by rw [List.getD_eq_getElem?_getD, List.getElem?_eq_getElem hk]; rfl
  unfold Ix.tl
  rw [List.take_succ_eq_append_getElem hk, List.filter_append, List.map_append, e]
  congr 1
  by_cases h : members (I.top S[k]) I.n = []
  · rw [if_pos h]; simp [h]
  · rw [if_neg h]; simp [h]

theorem cnt_tl (I : Ix) (i : Nat) (hi : i < I.n) : ∀ S : List ByteArray, cntIn ((I.tl S S.length).map (·.2)) i = ((S.filter (fun t => inB t (I.T.getD i []))).length : Nat) := by
  intro S
  unfold Ix.tl
  rw [List.take_length]
  induction S with
  | nil => rfl
  | cons t S ih =>
    rw [List.filter_cons, List.filter_cons]
    by_cases ht : inB t (I.T.getD i []) = true
    · have hm : i ∈ members (I.top t) I.n := mem_members.2 ⟨hi, ht⟩
      have hne : (members (I.top t) I.n).isEmpty = false := by
        cases h : members (I.top t) I.n with
        | nil => rw [h] at hm; cases hm
        | cons _ _ => rfl
      rw [if_pos ht, hne]
      simp only [Bool.not_false, if_true, List.map_cons, List.length_cons]
      unfold cntIn at ih ⊢
      rw [List.filter_cons, if_pos (show I.top t i = true from ht), List.length_cons]
      omega
    · rw [if_neg ht]
      by_cases hne : (members (I.top t) I.n).isEmpty = true
      · rw [hne]; simpa using ih
      · have : (members (I.top t) I.n).isEmpty = false := by simpa using hne
        rw [this]
        simp only [Bool.not_false, if_true, List.map_cons]
        unfold cntIn at ih ⊢
        rw [List.filter_cons, if_neg (show ¬ I.top t i = true from ht)]
        exact ih

theorem cnt_sl (I : Ix) (i : Nat) (hi : i < I.n) (c x : ByteArray) : cntIn ((I.sl c x).map (·.2)) i = if I.sub c x i then 1 else 0 := by
  unfold Ix.sl
  by_cases hx : x = ⟨#[]⟩
  · have : I.sub c x i = false := by simp [Ix.sub, shares, hx]
    rw [if_pos hx, this]; rfl
  · rw [if_neg hx]
    by_cases hm : members (I.sub c x) I.n = []
    · have : I.sub c x i = false := by
        cases h : I.sub c x i with
        | false => rfl
        | true => have := mem_members.2 ⟨hi, h⟩; rw [hm] at this; cases this
      rw [if_pos hm, this]; rfl
    · rw [if_neg hm]
      unfold cntIn
      cases h : I.sub c x i <;> simp [h]

/-- On how many of the scope's lists bundle i lies: what listsIn answers. -/
theorem cnt_ll (I : Ix) (i : Nat) (hi : i < I.n) (S : List ByteArray) (c x : ByteArray) (hS : Asc S) (hT : Asc (I.T.getD i [])) :
    cntIn ((I.ll S c x).map (·.2)) i = listsN (I.T.getD i []) S (I.C.getD i ⟨#[]⟩) (I.X.getD i ⟨#[]⟩) c x := by
  unfold Ix.ll listsN
  rw [List.map_append, cntIn_append, cnt_tl I i hi, cnt_sl I i hi, mg_eq _ _ _ (Nat.le_refl _) hT.pairwise hS.pairwise]
  unfold Ix.sub
  split <;> simp

theorem reach_cnt (I : Ix) (i : Nat) (hi : i < I.n) (S : List ByteArray) (c x : ByteArray) :
    (1 ≤ cntIn ((I.ll S c x).map (·.2)) i) ↔ reach (I.T.getD i []) (I.C.getD i ⟨#[]⟩) (I.X.getD i ⟨#[]⟩) S c x = true := by
  unfold Ix.ll
  rw [List.map_append, cntIn_append, cnt_tl I i hi, cnt_sl I i hi]
  unfold reach Ix.sub
  constructor
  · intro h
    by_cases hs : shares (I.C.getD i ⟨#[]⟩) (I.X.getD i ⟨#[]⟩) c x = true
    · rw [hs]; simp
    · rw [if_neg hs] at h
      have hpos : 0 < (S.filter (fun t => inB t (I.T.getD i []))).length := by omega
      obtain ⟨t, ht⟩ := List.exists_mem_of_length_pos hpos
      rw [List.mem_filter] at ht
      have h1 : t ∈ I.T.getD i [] := inB_iff.1 ht.2
      have h2 : inB t S = true := inB_iff.2 ht.1
      have : (I.T.getD i []).any (fun t => inB t S) = true := List.any_eq_true.2 ⟨t, h1, h2⟩
      rw [this]; rfl
  · intro h
    rw [Bool.or_eq_true] at h
    rcases h with h | h
    · obtain ⟨t, h1, h2⟩ := List.any_eq_true.1 h
      have : t ∈ S.filter (fun t => inB t (I.T.getD i [])) := List.mem_filter.2 ⟨inB_iff.1 h2, inB_iff.2 h1⟩
      have := List.length_pos_of_mem this
      split <;> omega
    · rw [h]; simp; omega

theorem sumTo_sumR (I : Ix) (S : List ByteArray) (c x : ByteArray) : ∀ k, k ≤ I.n → sumTo I.T I.C I.X I.D S c x k = sumR (fun i => if 1 ≤ cntIn ((I.ll S c x).map (·.2)) i then I.Dn i else 0) k
  | 0, _ => rfl
  | k + 1, hk => by
    simp only [sumTo, sumR]
    rw [sumTo_sumR I S c x k (by omega)]
    congr 1
    by_cases h : reach (I.T.getD k []) (I.C.getD k ⟨#[]⟩) (I.X.getD k ⟨#[]⟩) S c x = true
    · rw [if_pos h, if_pos ((reach_cnt I k (by omega) S c x).2 h)]; rfl
    · rw [if_neg h, if_neg (fun h' => h ((reach_cnt I k (by omega) S c x).1 h'))]

/-- A bundle that lies on no list but one lies on at most one. -/
theorem cnt_le_one : ∀ (L : List (Nat → Bool)) (i l : Nat), (∀ j, j < L.length → j ≠ l → (L.getD j (fun _ => false)) i = false) → cntIn L i ≤ 1
  | [], _, _, _ => by unfold cntIn; simp
  | p :: L, i, 0, h => by
    have h0 : ∀ q ∈ L, q i = false := fun q hq => by
      obtain ⟨j, hj, rfl⟩ := List.getElem_of_mem hq
      have := h (j + 1) (by simp; omega) (by omega)
      rw [List.getD_cons_succ, List.getD_eq_getElem?_getD, List.getElem?_eq_getElem hj] at this
      exact this
    have : L.filter (fun p => p i) = [] := List.filter_eq_nil_iff.2 (fun q hq => by rw [h0 q hq]; simp)
    unfold cntIn
    rw [List.filter_cons, this]
    split <;> simp
  | p :: L, i, l + 1, h => by
    have hp : p i = false := h 0 (by simp) (by omega)
    have := cnt_le_one L i l (fun j hj hne => by
      have := h (j + 1) (by simp; omega) (by omega)
      rwa [List.getD_cons_succ] at this)
    unfold cntIn at this ⊢
    rw [List.filter_cons, hp]
    simpa using this

end Go.Proofs.Qxb6600940a
