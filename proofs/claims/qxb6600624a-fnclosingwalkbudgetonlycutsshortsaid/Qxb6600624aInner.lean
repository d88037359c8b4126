import Derived.Test.Qxb6600624aSpend
namespace Go.Proofs.Qxb6600624a
open Go.RowKit

/-- A cell that was there, neither a parent nor the budget, reads as it did. -/
theorem LoopAt.old {w wr : World} {pb n b o : Nat} {bud : Option Nat} {s : Plain.St} {left : Int} {x : Value} (h : LoopAt w wr pb bud n s left) (hx : w.cell? ⟨b, o, none⟩ = some x) (hn : b ≠ pb ∧ some b ≠ bud) : wr.cell? ⟨b, o, none⟩ = some x :=
  (World.cell?_of_block (w := w) (a := ⟨b, o, none⟩) (h.keep b (World.block_lt_of_cell? _ _ hx) hn.1 hn.2)).trans hx

theorem box_cell (w : World) (a b c : Value) (t : TypeId) : (w.alloc (.cells #[a, b, c] t)).cell? ⟨w.heap.size, 1, none⟩ = some b := by
  have h : (w.alloc (.cells #[a, b, c] t)).heap[w.heap.size]? = some (.cells #[a, b, c] t) := heap_alloc_new w _
  simp only [World.cell?, h]
  rfl

/-- The world behind the scan's new mark and the append. -/
theorem LoopAt.push2 {w w7 w8 : World} {pb n g cap : Nat} {bud : Option Nat} {s : Plain.St} {left : Int} (h : LoopAt w w7 pb bud n s left) (hq : QueueAt w.heap.size w7 s.q g cap) (y : Nat) (v' : Value) (o : Obj)
    (hown : w8.ownsRow (w.heap.size + 1) 3 1 v' (s.q.length + 1) ((s.q.map fun y : Nat => Value.int .i64 (y : Int)) ++ [.int .i64 y])) (hg : (w7.alloc o).grownBy w8 (Value.ownBlock (.slice (some ⟨g, 0, none⟩) s.q.length cap))) (hnn : v' ≠ .slice none 0 0) :
    LoopAt w (w8.setCell ⟨w.heap.size + 1 + 1, 0, none⟩ v') pb bud n ⟨s.par, s.q ++ [y]⟩ left :=
  (h.below ((Below.refl _ _).alloc (Nat.le_refl _) o)).push (hq.keep fun k hk _ => Below.heap_alloc _ _ _ hk) y v' hown (by simpa [Value.ownBlock] using hg) hnn

/-- The queue's variable behind the append: still there, not frozen. -/
theorem QueueAt.box8 {w7 w8 : World} {B g cap : Nat} {q : List Nat} (hq : QueueAt B w7 q g cap) {o : Obj} (hg : (w7.alloc o).grownBy w8 (Value.ownBlock (.slice (some ⟨g, 0, none⟩) q.length cap))) :
    w8.cell? ⟨B + 1 + 1, 0, none⟩ = some (.slice (some ⟨g, 0, none⟩) q.length cap) ∧ w8.frozen? ⟨B + 1 + 1, 0, none⟩ = false := by
  have hge := hq.gne
  have h1 : w8.heap[B + 1 + 1]? = (w7.alloc o).heap[B + 1 + 1]? := hg.block (B + 1 + 1) (by have := hq.box.lt; simp; omega) (by simp [Value.ownBlock]; omega)
  have h2 := (hq.box.alloc o).of_block h1
  exact ⟨h2.cell Nat.zero_lt_one, h2.frozen 0⟩

theorem news_at (w : World) (n : Nat) (x : Value) (t : TypeId) (hn : w.heap.size = n) : ∀ j u, [x][j]? = some u → (w.alloc (.cells #[x] t)).cell? ((⟨n, 0, none⟩ : Addr).add j) = some u := by
  subst hn
  exact cell_one_new w x t

theorem one_int (k : IntKind) (n : Int) : ∀ u ∈ [Value.int k n], u.oneCell' = true := by
  intro u hu
  simp at hu
  subst hu
  rfl

theorem own_slice {w : World} {base n : Nat} {v : Value} {xs : List Value} (h : w.ownsRow base 3 1 v n xs) (hnn : v ≠ .slice none 0 0) : ∃ g cap, v = .slice (some ⟨g, 0, none⟩) n cap := by
  rcases h.2 with ⟨e, _⟩ | ⟨g, cap, cur, hv, _⟩
  · exact absurd e hnn
  · exact ⟨g, cap, hv⟩

theorem kindStr_rw (kd : Int) : (kindStr kd == (⟨#[114, 119]⟩ : ByteArray)) = decide (kd = 1) := by
  unfold kindStr
  by_cases e1 : kd = 1
  · rw [if_pos e1]; simp only [e1, decide_true]; decide
  · rw [if_neg e1]; simp only [e1, decide_false]
    by_cases e2 : kd = 2
    · rw [if_pos e2]; decide
    · rw [if_neg e2]; decide

theorem kindStr_rw2 (kd : Int) : ((kindStr kd).toList == [114, 119]) = decide (kd = 1) := by
  unfold kindStr
  by_cases e1 : kd = 1
  · rw [if_pos e1]; simp only [e1, decide_true]; decide +kernel
  · rw [if_neg e1]; simp only [e1, decide_false]
    by_cases e2 : kd = 2
    · rw [if_pos e2]; decide +kernel
    · rw [if_neg e2]; decide +kernel

theorem step_none {u tgt x t : Nat} {kd : Int} {s : Plain.St} (h : Plain.nextSt (x / 2) t kd = none) : Plain.step u tgt x t kd s = s := by simp [Plain.step, h]

theorem step_some {u tgt x t ns y : Nat} {kd : Int} {s : Plain.St} (h : Plain.nextSt (x / 2) t kd = some ns) (hy : y = if kd = 1 then 2 * ns + 1 else 2 * ns + x % 2) (hc : ns / 2 ≠ u ∨ y = tgt) (hp : s.par y = -2) :
    Plain.step u tgt x t kd s = ⟨Plain.upd s.par y x, s.q ++ [y]⟩ := by
  unfold Plain.step
  rw [h]
  dsimp only
  rw [← hy, if_pos ⟨hc, hp⟩]

theorem step_skip {u tgt x t ns y : Nat} {kd : Int} {s : Plain.St} (h : Plain.nextSt (x / 2) t kd = some ns) (hy : y = if kd = 1 then 2 * ns + 1 else 2 * ns + x % 2) (hc : ¬ ((ns / 2 ≠ u ∨ y = tgt) ∧ s.par y = -2)) :
    Plain.step u tgt x t kd s = s := by
  unfold Plain.step
  rw [h]
  dsimp only
  rw [← hy, if_neg hc]

end Go.Proofs.Qxb6600624a
