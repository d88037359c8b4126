/-
  DERIVED. A family of rows that the call itself made, no two in one block.
-/
import Derived.Test.Qxb6600940aLists
import Derived.Maps.AppendAt
import Derived.Laws.OwnMore
namespace Go.Proofs.Qxb6600940a
open Go.RowKit

structure Row where
  e : TypeId
  size : Nat
  v : Value
  n : Nat
  xs : List Value
def nilRow (e : TypeId) (size : Nat) : Row := ⟨e, size, .slice none 0 0, 0, []⟩
def upd (F : Nat → Row) (t : Nat) (r : Row) : Nat → Row := fun u => if u = t then r else F u
theorem upd_same (F : Nat → Row) (t : Nat) (r : Row) : upd F t r t = r := if_pos rfl
theorem upd_other (F : Nat → Row) {t u : Nat} (r : Row) (h : u ≠ t) : upd F t r u = F u := if_neg h

/-- The rows F, all in blocks from B on, no two in one block. -/
structure Fam (w : World) (B : Nat) (F : Nat → Row) : Prop where
  own : ∀ t, w.ownsRow B (F t).e (F t).size (F t).v (F t).n (F t).xs
  apart : ∀ t u b, t ≠ u → (F t).v.ownBlock = some b → (F u).v.ownBlock ≠ some b

theorem ownsRow_of_block {w w' : World} {B : Nat} {e : TypeId} {size : Nat} {v : Value} {n : Nat} {xs : List Value} (h : w.ownsRow B e size v n xs) (hb : ∀ b, v.ownBlock = some b → w'.heap[b]? = w.heap[b]?) : w'.ownsRow B e size v n xs := by
  refine ⟨h.1, ?_⟩
  rcases h.2 with hn | ⟨g, cap, cur, hv, hbg, hg, rest⟩
  · exact .inl hn
  · exact .inr ⟨g, cap, cur, hv, hbg, (hb g (by rw [hv]; rfl)).trans hg, rest⟩

theorem Fam.keep {w w' : World} {B : Nat} {F : Nat → Row} (h : Fam w B F) (hk : ∀ b, B ≤ b → b < w.heap.size → w'.heap[b]? = w.heap[b]?) : Fam w' B F :=
  ⟨fun t => ownsRow_of_block (h.own t) (fun b hb => by have := (h.own t).lt b hb; exact hk b this.1 this.2), h.apart⟩

theorem Fam.grown {w w' : World} {B : Nat} {F : Nat → Row} (h : Fam w B F) (t : Nat) (hg : w.grownBy w' (F t).v.ownBlock) (r : Row) (hr : w'.ownsRow B r.e r.size r.v r.n r.xs)
    (hb : r.v.ownBlock = (F t).v.ownBlock ∨ r.v.ownBlock = some w.heap.size) : Fam w' B (upd F t r) := by
  refine ⟨fun u => ?_, fun u u' b hne => ?_⟩
  · by_cases e : u = t
    · rw [e, upd_same]; exact hr
    · rw [upd_other _ _ e]
      refine ownsRow_of_block (h.own u) (fun b hb => hg.block b ((h.own u).lt b hb).2 (fun e' => ?_))
      exact h.apart u t b e hb e'.symm
  · by_cases e : u = t
    · subst e
      rw [upd_same, upd_other _ _ (Ne.symm hne)]
      intro hrb hub
      rcases hb with hb | hb
      · rw [hb] at hrb; exact h.apart u u' b hne hrb hub
      · rw [hb] at hrb
        have := (h.own u').lt b hub
        have : w.heap.size = b := by simpa using hrb
        omega
    · rw [upd_other _ _ e]
      intro hub
      by_cases e' : u' = t
      · subst e'
        rw [upd_same]
        intro hrb
        rcases hb with hb | hb
        · rw [hb] at hrb; exact h.apart u u' b hne hub hrb
        · rw [hb] at hrb
          have := (h.own u).lt b hub
          have : w.heap.size = b := by simpa using hrb
          omega
      · rw [upd_other _ _ e']
        exact h.apart u u' b hne hub

theorem Fam.store {w : World} {B : Nat} {F : Nat → Row} (h : Fam w B F) (t g n cap : Nat) (hv : (F t).v = .slice (some ⟨g, 0, none⟩) n cap) (hn : (F t).n = n) (j : Nat) (u : Value) :
    Fam (w.setCell ⟨g, j, none⟩ u) B (upd F t ⟨(F t).e, (F t).size, (F t).v, (F t).n, (F t).xs.set j u⟩) := by
  have ho := h.own t
  rw [hv, hn] at ho
  have hs := ho.stored j u
  refine h.grown t (by rw [hv]; exact hs.2) _ ?_ (Or.inl rfl)
  show World.ownsRow _ B (F t).e (F t).size (F t).v (F t).n ((F t).xs.set j u)
  rw [hv, hn]
  exact hs.1

/-- A full row's slice: its address and its cells. -/
theorem Fam.slice {w : World} {B : Nat} {F : Nat → Row} (h : Fam w B F) (t : Nat) (hn : 0 < (F t).n) : ∃ g cap, (F t).v = .slice (some ⟨g, 0, none⟩) (F t).n cap ∧ B ≤ g ∧ (F t).n ≤ cap ∧ (∀ j, j < (F t).n * (F t).size → w.cell? ⟨g, j, none⟩ = (F t).xs[j]?) ∧ ∀ j, w.frozen? ⟨g, j, none⟩ = false := by
  have ho := h.own t
  rcases ho.2 with hnil | ⟨g, cap, cur, hv, hb, hg, hnc, _⟩
  · omega
  · have ho' := ho
    rw [hv] at ho'
    exact ⟨g, cap, hv, hb, hnc, fun j hj => ho'.cellAt j hj, fun j => ho'.frozenAt j⟩

theorem Fam.empty (w : World) (B : Nat) (e : Nat → TypeId) (size : Nat → Nat) : Fam w B (fun t => nilRow (e t) (size t)) :=
  ⟨fun t => World.ownsRow_nil w B (e t) (size t), fun _ _ _ _ h => by cases h⟩

end Go.Proofs.Qxb6600940a
