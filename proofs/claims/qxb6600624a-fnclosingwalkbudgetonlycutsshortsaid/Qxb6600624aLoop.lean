import Derived.Test.Qxb6600624aArena
namespace Go.Proofs.Qxb6600624a
open Go.RowKit

/-- A one-cell block: its cell, its mark, a store. -/
theorem rowIs_one_set {w : World} {b : Nat} {t : TypeId} {f : Nat → Value} (h : w.rowIs b t 1 f) (v : Value) : (w.setCell ⟨b, 0, none⟩ v).rowIs b t 1 (fun _ => v) :=
  (h.set 0 v).congr (fun i hi => by have : i = 0 := by omega
                                    simp [this])

/-- The queue's variable and its row. -/
structure QueueAt (B : Nat) (wr : World) (q : List Nat) (g cap : Nat) : Prop where
  box : wr.rowIs (B + 2) 27 1 (fun _ => .slice (some ⟨g, 0, none⟩) q.length cap)
  own : wr.ownsRow (B + 1) 3 1 (.slice (some ⟨g, 0, none⟩) q.length cap) q.length (q.map fun y : Nat => Value.int .i64 (y : Int))

/-- The world at a loop's head: w: as it was at the call; s: the search's state; left: what the budget still has. -/
structure LoopAt (w wr : World) (pb : Nat) (bud : Option Nat) (n : Nat) (s : Plain.St) (left : Int) : Prop where
  os : wr.os = w.os
  tape : wr.tape = w.tape
  output : wr.output = w.output
  size : w.heap.size + 3 ≤ wr.heap.size
  keep : ∀ k, k < w.heap.size → k ≠ pb → some k ≠ bud → wr.heap[k]? = w.heap[k]?
  plt : pb < w.heap.size
  blt : ∀ b, bud = some b → b < w.heap.size ∧ b ≠ pb
  pbox : wr.rowIs w.heap.size 27 1 (fun _ => .slice (some ⟨pb, 0, none⟩) (4 * n) (4 * n))
  queue : ∃ g cap, QueueAt w.heap.size wr s.q g cap
  par : wr.rowIs pb 3 (4 * n) (fun i => .int .i64 (s.par i))
  bud : BudAt wr bud left

theorem QueueAt.gne {B g cap : Nat} {wr : World} {q : List Nat} (h : QueueAt B wr q g cap) : B + 1 ≤ g ∧ g ≠ B + 2 ∧ g < wr.heap.size := by
  rcases h.own.2 with ⟨h1, _⟩ | ⟨g', cap', cur, hv, hb, hh, _⟩
  · cases h1
  · injection hv with e1 e2 e3
    injection e1 with e1
    injection e1 with e1
    subst e1
    refine ⟨hb, fun e => ?_, (Array.getElem?_eq_some_iff.1 hh).1⟩
    obtain ⟨c, hc, _⟩ := h.box
    rw [← e, hh] at hc
    simp at hc

theorem QueueAt.cell {B g cap : Nat} {wr : World} {q : List Nat} (h : QueueAt B wr q g cap) {k : Nat} (hk : k < q.length) : wr.cell? ⟨g, k, none⟩ = some (.int .i64 (q.getD k 0 : Nat)) := by
  rw [h.own.cellAt k (by omega)]
  simp [hk, List.getD]

theorem QueueAt.keep {B g cap : Nat} {wr wr' : World} {q : List Nat} (h : QueueAt B wr q g cap) (hb : ∀ k, k < wr.heap.size → B < k → wr'.heap[k]? = wr.heap[k]?) : QueueAt B wr' q g cap := by
  have hg := h.gne
  refine ⟨h.box.of_block (hb _ h.box.lt (by omega)), ?_⟩
  obtain ⟨h1, h2⟩ := h.own
  refine ⟨h1, ?_⟩
  rcases h2 with h2 | ⟨g', cap', cur, hv, hb', hh, r⟩
  · exact Or.inl h2
  · exact Or.inr ⟨g', cap', cur, hv, hb', (hb _ (Array.getElem?_eq_some_iff.1 hh).1 (by omega)).trans hh, r⟩

/-- New blocks and draws turn nothing. -/
theorem LoopAt.below {w wr w' : World} {pb n : Nat} {bud : Option Nat} {s : Plain.St} {left : Int} (h : LoopAt w wr pb bud n s left) (hb : Below wr.heap.size wr w') : LoopAt w w' pb bud n s left := by
  have hs := h.size
  obtain ⟨g, cap, hq⟩ := h.queue
  refine ⟨hb.os.trans h.os, hb.tape.trans h.tape, hb.output.trans h.output, Nat.le_trans hs hb.size, fun k hk h1 h2 => (hb.block k (by omega)).trans (h.keep k hk h1 h2), h.plt, h.blt, h.pbox.of_block (hb.block _ (by omega)), ⟨g, cap, ?_⟩, h.par.of_block (hb.block _ (by have := h.plt; omega)), fun b e => ?_⟩
  · exact hq.keep fun k hk _ => hb.block k hk
  · exact (h.bud b e).of_block (hb.block _ (by have := (h.blt b e).1; omega))

/-- 'parent[y] = x'. -/
theorem LoopAt.setPar {w wr : World} {pb n : Nat} {bud : Option Nat} {s : Plain.St} {left : Int} (h : LoopAt w wr pb bud n s left) (y : Nat) (x : Int) :
    LoopAt w (wr.setCell ⟨pb, y, none⟩ (.int .i64 x)) pb bud n ⟨Plain.upd s.par y x, s.q⟩ left := by
  have hs := h.size
  have hp := h.plt
  obtain ⟨g, cap, hq⟩ := h.queue
  have hbk : ∀ k, k ≠ pb → (wr.setCell ⟨pb, y, none⟩ (.int .i64 x)).heap[k]? = wr.heap[k]? := fun k hk => Below.heap_setCell _ _ _ _ hk
  refine ⟨h.os, h.tape, h.output, by simpa [World.setCell] using hs, fun k hk h1 h2 => (hbk k h1).trans (h.keep k hk h1 h2), h.plt, h.blt, h.pbox.of_block (hbk _ (by omega)), ⟨g, cap, ?_⟩, ?_, fun b e => ?_⟩
  · exact hq.keep fun k hk hlt => hbk k (by omega)
  · exact (h.par.set y _).congr fun i _ => by
      simp only [Plain.upd]
      split <;> rfl
  · exact (h.bud b e).of_block (hbk _ (h.blt b e).2)

/-- The budget has paid. -/
theorem LoopAt.setBud {w wr : World} {pb n b : Nat} {s : Plain.St} {left : Int} (h : LoopAt w wr pb (some b) n s left) (left' : Int) :
    LoopAt w (wr.setCell ⟨b, 0, none⟩ (.int .i64 left')) pb (some b) n s left' := by
  have hs := h.size
  have hp := h.plt
  have hbl := h.blt b rfl
  obtain ⟨g, cap, hq⟩ := h.queue
  have hbk : ∀ k, k ≠ b → (wr.setCell ⟨b, 0, none⟩ (.int .i64 left')).heap[k]? = wr.heap[k]? := fun k hk => Below.heap_setCell _ _ _ _ hk
  refine ⟨h.os, h.tape, h.output, by simpa [World.setCell] using hs, fun k hk h1 h2 => (hbk k (fun e => h2 (by rw [e]))).trans (h.keep k hk h1 h2), h.plt, h.blt, h.pbox.of_block (hbk _ (by omega)), ⟨g, cap, ?_⟩, ?_, fun b' e => ?_⟩
  · exact hq.keep fun k hk hlt => hbk k (by omega)
  · exact h.par.of_block (hbk _ (fun e => hbl.2 e.symm))
  · obtain rfl := Option.some.inj e
    exact rowIs_one_set (h.bud b rfl) _

/-- 'queue = append(queue, y)': w1: behind the append. -/
theorem LoopAt.push {w wr w1 : World} {pb n g cap : Nat} {bud : Option Nat} {s : Plain.St} {left : Int} (h : LoopAt w wr pb bud n s left) (hq : QueueAt w.heap.size wr s.q g cap) (y : Nat) (v' : Value)
    (hown : w1.ownsRow (w.heap.size + 1) 3 1 v' (s.q.length + 1) ((s.q.map fun y : Nat => Value.int .i64 (y : Int)) ++ [.int .i64 y])) (hg : wr.grownBy w1 (some g)) (hnn : v' ≠ .slice none 0 0) :
    LoopAt w (w1.setCell ⟨w.heap.size + 2, 0, none⟩ v') pb bud n ⟨s.par, s.q ++ [y]⟩ left := by
  have hs := h.size
  have hp := h.plt
  have hge := hq.gne
  have hbk : ∀ k, k ≠ w.heap.size + 2 → (w1.setCell ⟨w.heap.size + 2, 0, none⟩ v').heap[k]? = w1.heap[k]? := fun k hk => Below.heap_setCell _ _ _ _ hk
  have hgb : ∀ k, k < wr.heap.size → k ≠ g → w1.heap[k]? = wr.heap[k]? := fun k hk hne => hg.block k hk (fun e => hne (Option.some.inj e))
  have hbox1 : w1.rowIs (w.heap.size + 2) 27 1 (fun _ => .slice (some ⟨g, 0, none⟩) s.q.length cap) := hq.box.of_block (hgb _ hq.box.lt (by omega))
  refine ⟨hg.os.trans h.os, hg.tape.trans h.tape, hg.output.trans h.output, by have := hg.size; simp [World.setCell]; omega, fun k hk h1 h2 => ?_, h.plt, h.blt, ?_, ?_, ?_, fun b e => ?_⟩
  · rw [hbk k (by omega), hgb k (by omega) (by omega)]; exact h.keep k hk h1 h2
  · exact (h.pbox.of_block (hgb _ (by omega) (by omega))).of_block (hbk _ (by omega))
  · rcases hown.2 with ⟨e, _⟩ | ⟨g', cap', cur, hv, hb, hh, hr⟩
    · exact absurd e hnn
    · subst hv
      have hne : g' ≠ w.heap.size + 2 := fun e => by
        obtain ⟨c, hc, _⟩ := hbox1
        rw [← e, hh] at hc
        simp at hc
      refine ⟨g', cap', ?_, ?_⟩
      · have := rowIs_one_set hbox1 (.slice (some ⟨g', 0, none⟩) (s.q.length + 1) cap')
        simpa using this
      · have := ownsRow_setCell_other hown (a := ⟨w.heap.size + 2, 0, none⟩) (by simp [Value.ownBlock]; exact hne) (.slice (some ⟨g', 0, none⟩) (s.q.length + 1) cap')
        simpa using this
  · exact (h.par.of_block (hgb _ (by omega) (by omega))).of_block (hbk _ (by omega))
  · have := (h.blt b e).1
    exact ((h.bud b e).of_block (hgb _ (by omega) (by omega))).of_block (hbk _ (by omega))

/-- The head of the function. -/
theorem loop_start (w : World) (pb n frm : Nat) (bud : Option Nat) (left : Int) (hp : w.rowIs pb 3 (4 * n) (fun _ => .int .i64 (-2))) (hb : BudAt w bud left) (hbl : ∀ b, bud = some b → b ≠ pb) :
    LoopAt w ((((w.setCell ⟨pb, frm, none⟩ (.int .i64 (-1))).alloc (.cells #[.slice (some ⟨pb, 0, none⟩) (4 * n) (4 * n)] 27)).alloc (.cells #[.int .i64 (frm : Int)] 3)).alloc (.cells #[.slice (some ⟨w.heap.size + 1, 0, none⟩) 1 1] 27)) pb bud n (Plain.start frm) left := by
  have hpl := hp.lt
  generalize hw0 : w.setCell ⟨pb, frm, none⟩ (.int .i64 (-1)) = w0
  have hs0 : w0.heap.size = w.heap.size := by rw [← hw0]; simp [World.setCell]
  have hbk : ∀ k, k ≠ pb → w0.heap[k]? = w.heap[k]? := fun k hk => by rw [← hw0]; exact Below.heap_setCell _ _ _ _ hk
  have hal : ∀ (x : World) (o : Obj) (k : Nat), k < x.heap.size → (x.alloc o).heap[k]? = x.heap[k]? := Below.heap_alloc
  have hs : ∀ (x : World) (o : Obj), (x.alloc o).heap.size = x.heap.size + 1 := fun x o => by simp
  generalize ho1 : Obj.cells #[.slice (some ⟨pb, 0, none⟩) (4 * n) (4 * n)] 27 = o1
  generalize ho2 : Obj.cells #[.int .i64 (frm : Int)] 3 = o2
  generalize ho3 : Obj.cells #[.slice (some ⟨w.heap.size + 1, 0, none⟩) 1 1] 27 = o3
  have hold : ∀ k, k < w.heap.size → (((w0.alloc o1).alloc o2).alloc o3).heap[k]? = w0.heap[k]? := fun k hk => by
    rw [hal _ _ _ (by rw [hs, hs]; omega), hal _ _ _ (by rw [hs]; omega), hal _ _ _ (by omega)]
  have e1 : (((w0.alloc o1).alloc o2).alloc o3).heap[w.heap.size]? = some o1 := by
    rw [hal _ _ _ (by rw [hs, hs]; omega), hal _ _ _ (by rw [hs]; omega), ← hs0]; exact heap_alloc_new _ _
  have e2 : (((w0.alloc o1).alloc o2).alloc o3).heap[w.heap.size + 1]? = some o2 := by
    rw [hal _ _ _ (by rw [hs, hs]; omega), ← hs0, ← hs w0 o1]; exact heap_alloc_new _ _
  have e3 : (((w0.alloc o1).alloc o2).alloc o3).heap[w.heap.size + 2]? = some o3 := by
    have : w.heap.size + 2 = ((w0.alloc o1).alloc o2).heap.size := by rw [hs, hs, hs0]
    rw [this]; exact heap_alloc_new _ _
  refine ⟨by rw [← hw0]; rfl, by rw [← hw0]; rfl, by rw [← hw0]; rfl, by rw [hs, hs, hs, hs0]; omega, fun k hk h1 _ => (hold k hk).trans (hbk k h1), hpl, fun b e => ⟨(hb b e).lt, hbl b e⟩, ?_, ?_, ?_, fun b e => ?_⟩
  · refine ⟨_, by rw [e1, ← ho1], rfl, fun i hi => ?_⟩
    have : i = 0 := by omega
    subst this; rfl
  · refine ⟨w.heap.size + 1, 1, ⟨⟨_, by rw [e3, ← ho3], rfl, fun i hi => ?_⟩, ⟨rfl, Or.inr ⟨w.heap.size + 1, 1, #[.int .i64 (frm : Int)], rfl, Nat.le_refl _, by rw [e2, ← ho2], Nat.le_refl _, by decide, rfl, rfl⟩⟩⟩⟩
    have : i = 0 := by omega
    subst this; rfl
  · refine World.rowIs.of_block (w := w0) ?_ (hold _ hpl)
    rw [← hw0]
    refine (hp.set frm _).congr fun i _ => ?_
    simp only [Plain.start, Plain.upd]
    split <;> rfl
  · exact ((hb b e).of_block (hbk _ (hbl b e))).of_block (hold _ (hb b e).lt)

end Go.Proofs.Qxb6600624a
