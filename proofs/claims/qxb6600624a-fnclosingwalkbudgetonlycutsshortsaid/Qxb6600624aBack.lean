import Derived.Test.Qxb6600624aInner
import Derived.Deep.LoopGhost
namespace Go.Proofs.Qxb6600624a
open Go.RowKit

/-- The walk back, in the making. -/
structure Chasing (wr wl : World) (u : Int) (tgt : Nat) (s : Plain.St) (f : Nat) (v : Value) (z : Int) : Prop where
  below : Below wr.heap.size wr wl
  own : ∃ xs : List Int, wl.ownsRow wr.heap.size 3 1 v xs.length (xs.map (Value.int .i64)) ∧ xs ++ Plain.chase s.par f z = Plain.back u tgt s ∧ xs.length + f = s.q.length + 2
  nn : v ≠ .slice none 0 0
  at_ : z = -1 ∨ ∃ (m y : Nat), m < f ∧ s.q[m]? = some y ∧ z = (y : Int)

theorem chase_next {m frm : Nat} {s : Plain.St} (h : Plain.Good m frm s) {k y f : Nat} (hk : s.q[k]? = some y) (hf : k ≤ f) : s.par y = -1 ∨ ∃ (m y' : Nat), m < f ∧ s.q[m]? = some y' ∧ s.par y = (y' : Int) := by
  rcases h.back k y hk with ⟨_, h1⟩ | ⟨j, z, hj, hz, hp⟩
  · exact Or.inl h1
  · exact Or.inr ⟨j, z, by omega, hz, hp⟩

theorem chase_start {m frm : Nat} {s : Plain.St} (h : Plain.Good m frm s) (wr : World) (u : Int) (tgt : Nat) (hp : s.par tgt ≠ -2) :
    Chasing wr (wr.alloc (.cells #[.int .i64 u] 3)) u tgt s (s.q.length + 1) (.slice (some ⟨wr.heap.size, 0, none⟩) 1 1) (s.par tgt) := by
  refine ⟨(Below.refl _ _).alloc (Nat.le_refl _) _, ⟨[u], ⟨rfl, Or.inr ⟨wr.heap.size, 1, #[.int .i64 u], rfl, Nat.le_refl _, heap_alloc_new _ _, Nat.le_refl _, by decide, rfl, rfl⟩⟩, rfl, by simp; omega⟩, (fun e => by cases e), ?_⟩
  have hm := (h.seen tgt).1 hp
  obtain ⟨k, hk⟩ := List.mem_iff_getElem?.1 hm
  have hlt := (List.getElem?_eq_some_iff.1 hk).1
  exact chase_next h hk (by omega)

/-- One step back: w1: behind the append of y / 4. -/
theorem chase_step {m frm : Nat} {wr wl w1 : World} {u : Int} {tgt f : Nat} {s : Plain.St} {v v1 : Value} {y k : Nat} {xs : List Int} (hG : Plain.Good m frm s) (hb : Below wr.heap.size wr wl) (hxs : xs ++ Plain.chase s.par (f + 1) (y : Int) = Plain.back u tgt s) (hl : xs.length + (f + 1) = s.q.length + 2) (hk : s.q[k]? = some y) (hkf : k < f + 1) {o : Obj}
    (hown : w1.ownsRow wr.heap.size 3 1 v1 (xs.length + 1) (xs.map (Value.int .i64) ++ [.int .i64 ((y : Int) / 4)])) (hg : (wl.alloc o).grownBy w1 v.ownBlock) (hvb : ∀ b, v.ownBlock = some b → wr.heap.size ≤ b) (hnn : v1 ≠ .slice none 0 0) :
    Chasing wr w1 u tgt s f v1 (s.par y) := by
  refine ⟨?_, ⟨xs ++ [(y : Int) / 4], ?_, ?_, ?_⟩, hnn, chase_next hG hk (by omega)⟩
  · exact (hb.alloc (by have := hb.size; omega) o).grown hg (by have := hb.size; simp; omega) hvb
  · simpa using hown
  · rw [← hxs]
    have e : Plain.chase s.par (f + 1) (y : Int) = ((y : Int) / 4) :: Plain.chase s.par f (s.par y) := by
      simp only [Plain.chase]
      rw [if_neg (by omega)]
      simp
    rw [e]; simp
  · simp; omega

theorem chase_done (par : Nat → Int) (f : Nat) : Plain.chase par f (-1) = [] := by
  cases f with
  | zero => rfl
  | succ f => simp [Plain.chase]

/-- The walk, being turned round. -/
structure Turning (wr wl : World) (l0 : List Int) (g cap : Nat) (f i j : Nat) (l : List Int) : Prop where
  below : Below wr.heap.size wr wl
  glo : wr.heap.size ≤ g
  len : l.length = l0.length
  own : wl.ownsRow wr.heap.size 3 1 (.slice (some ⟨g, 0, none⟩) l0.length cap) l0.length (l.map (Value.int .i64))
  turn : Plain.turn f i j l = Plain.turn l0.length 1 (l0.length - 1) l0
  fuel : j < f + i
  jlt : j < l0.length

theorem turning_start {wr wl : World} {l0 : List Int} {g cap : Nat} (hb : Below wr.heap.size wr wl) (hg : wr.heap.size ≤ g) (hown : wl.ownsRow wr.heap.size 3 1 (.slice (some ⟨g, 0, none⟩) l0.length cap) l0.length (l0.map (Value.int .i64))) (hl : 0 < l0.length) :
    Turning wr wl l0 g cap l0.length 1 (l0.length - 1) l0 := ⟨hb, hg, rfl, hown, rfl, by omega, by omega⟩

theorem Turning.cell {wr wl : World} {l0 l : List Int} {g cap f i j : Nat} (h : Turning wr wl l0 g cap f i j l) {k : Nat} (hk : k < l0.length) : wl.cell? ⟨g, k, none⟩ = some (.int .i64 (l.getD k 0)) ∧ wl.frozen? ⟨g, k, none⟩ = false := by
  refine ⟨?_, h.own.frozenAt k⟩
  rw [h.own.cellAt k (by omega)]
  have : k < l.length := by rw [h.len]; exact hk
  simp [this, List.getD]

theorem map_swap (l : List Int) (i j : Nat) : (Plain.swap l i j).map (Value.int .i64) = ((l.map (Value.int .i64)).set i (.int .i64 (l.getD j 0))).set j (.int .i64 (l.getD i 0)) := by
  unfold Plain.swap
  rw [List.map_set, List.map_set]

theorem turning_step1 {wr wl : World} {l0 l : List Int} {g cap f i j : Nat} (h : Turning wr wl l0 g cap (f + 1) i j l) (hij : i < j) :
    Turning wr ((wl.setCell ⟨g, i, none⟩ (.int .i64 (l.getD j 0))).setCell ⟨g, j, none⟩ (.int .i64 (l.getD i 0))).drew l0 g cap f (i + 1) (j - 1) (Plain.swap l i j) := by
  refine ⟨((h.below.setCell h.glo _).setCell h.glo _).drew, h.glo, by rw [Plain.swap_len, h.len], ?_, ?_, by have := h.fuel; omega, by have := h.jlt; omega⟩
  · rw [map_swap]
    exact ((h.own.stored i _).1.stored j _).1
  · rw [← h.turn, Plain.turn, if_pos hij]

theorem turning_step2 {wr wl : World} {l0 l : List Int} {g cap f i j : Nat} (h : Turning wr wl l0 g cap (f + 1) i j l) (hij : i < j) :
    Turning wr ((wl.setCell ⟨g, j, none⟩ (.int .i64 (l.getD i 0))).setCell ⟨g, i, none⟩ (.int .i64 (l.getD j 0))).drew l0 g cap f (i + 1) (j - 1) (Plain.swap l i j) := by
  refine ⟨((h.below.setCell h.glo _).setCell h.glo _).drew, h.glo, by rw [Plain.swap_len, h.len], ?_, ?_, by have := h.fuel; omega, by have := h.jlt; omega⟩
  · rw [map_swap, List.set_comm _ _ (by omega)]
    exact ((h.own.stored j _).1.stored i _).1
  · rw [← h.turn, Plain.turn, if_pos hij]

theorem turning_end {wr wl w7 : World} {l0 l : List Int} {g cap f i j pb : Nat} (h : Turning wr wl l0 g cap f i j l) (hij : ¬ i < j) (ho : OnlyAt pb wl w7) (hp : pb < wr.heap.size) :
    l = Plain.turn l0.length 1 (l0.length - 1) l0 ∧ ∀ k, k < l0.length → w7.cell? ⟨g, k, none⟩ = some (.int .i64 (l.getD k 0)) := by
  refine ⟨?_, fun k hk => ?_⟩
  · rw [← h.turn]
    cases f with
    | zero => rfl
    | succ f => rw [Plain.turn, if_neg hij]
  · rw [ho.cell (by have := h.glo; omega)]; exact (h.cell hk).1

end Go.Proofs.Qxb6600624a
