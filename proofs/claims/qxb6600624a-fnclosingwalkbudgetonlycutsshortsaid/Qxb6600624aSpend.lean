import Derived.Test.Qxb6600624aWalkD
namespace Go.Proofs.Qxb6600624a
open Go.RowKit

/-- The budget's block holds l now; nothing else has turned. -/
structure Paid (bud : Option Nat) (l : Int) (w w' : World) : Prop where
  os : w'.os = w.os
  tape : w'.tape = w.tape
  output : w'.output = w.output
  size : w'.heap.size = w.heap.size
  block : ∀ k, some k ≠ bud → w'.heap[k]? = w.heap[k]?
  bud : BudAt w' bud l

theorem Paid.cell {bud : Option Nat} {l : Int} {w w' : World} (h : Paid bud l w w') {b o : Nat} (hb : some b ≠ bud) : w'.cell? ⟨b, o, none⟩ = w.cell? ⟨b, o, none⟩ := World.cell?_of_block (w := w) (h.block b hb)

theorem Paid.set {b : Nat} {l0 l : Int} {w : World} (h : BudAt w (some b) l0) : Paid (some b) l w (w.setCell ⟨b, 0, none⟩ (.int .i64 l)) :=
  ⟨rfl, rfl, rfl, by simp [World.setCell], fun k hk => Below.heap_setCell _ _ _ _ (fun e => hk (by rw [e])), fun b' e => by
    obtain rfl := Option.some.inj e
    exact rowIs_one_set (h b rfl) _⟩

theorem LoopAt.paid {w wr w' : World} {pb n : Nat} {bud : Option Nat} {s : Plain.St} {left l : Int} (h : LoopAt w wr pb bud n s left) (hp : Paid bud l wr w') : LoopAt w w' pb bud n s l := by
  have hs := h.size
  obtain ⟨g, cap, hq⟩ := h.queue
  have hne : ∀ k, w.heap.size ≤ k → some k ≠ bud := fun k hk e => by have := (h.blt k e.symm).1; omega
  refine ⟨hp.os.trans h.os, hp.tape.trans h.tape, hp.output.trans h.output, by rw [hp.size]; exact hs, fun k hk h1 h2 => (hp.block k h2).trans (h.keep k hk h1 h2), h.plt, h.blt, h.pbox.of_block (hp.block _ (hne _ (Nat.le_refl _))), ⟨g, cap, ?_⟩, ?_, hp.bud⟩
  · exact hq.keep fun k _ hlt => hp.block k (hne k (by omega))
  · exact h.par.of_block (hp.block _ (fun e => (h.blt pb e.symm).2 rfl))

theorem spend_yes (bud : Option Nat) (left n : Int) (w : World) (hb : BudAt w bud left) (h : ∀ b, bud = some b → n ≤ left) (h0 : 0 ≤ n) (hl : left ≤ 9223372036854775807) :
    Calls Try.prog 28 #[.pointer (bud.map fun b => ⟨b, 0, none⟩), .int .i64 n] w fun e w' => e = .returned (.bool true) ∧ Paid bud (left - n) w w' := by
  cases bud with
  | none =>
    refine (spend_none n w).mono ?_
    rintro e w' ⟨rfl, rfl⟩
    exact ⟨rfl, rfl, rfl, rfl, rfl, fun _ _ => rfl, fun b e => by cases e⟩
  | some b =>
    refine (spend_pays b left n w ((hb b rfl).cell Nat.zero_lt_one) ((hb b rfl).frozen 0) (h b rfl) h0 hl).mono ?_
    rintro e w' ⟨rfl, rfl⟩
    exact ⟨rfl, Paid.set hb⟩

theorem spend_no (b : Nat) (left n : Int) (w : World) (hb : BudAt w (some b) left) (h : left < n) :
    Calls Try.prog 28 #[.pointer ((some b).map fun b => ⟨b, 0, none⟩), .int .i64 n] w fun e w' => e = .returned (.bool false) ∧ Paid (some b) 0 w w' := by
  refine (spend_short b left n w ((hb b rfl).cell Nat.zero_lt_one) ((hb b rfl).frozen 0) h).mono ?_
  rintro e w' ⟨rfl, rfl⟩
  exact ⟨rfl, Paid.set hb⟩

/-- What the search answers. -/
structure Found (w w' : World) (pb : Nat) (bud : Option Nat) : Prop where
  os : w'.os = w.os
  tape : w'.tape = w.tape
  output : w'.output = w.output
  size : w.heap.size ≤ w'.heap.size
  keep : ∀ k, k < w.heap.size → k ≠ pb → some k ≠ bud → w'.heap[k]? = w.heap[k]?

theorem LoopAt.found {w wr w' : World} {pb n : Nat} {bud : Option Nat} {s : Plain.St} {left : Int} (h : LoopAt w wr pb bud n s left) (ho : OnlyAt pb wr w') : Found w w' pb bud :=
  ⟨ho.os.trans h.os, ho.tape.trans h.tape, ho.output.trans h.output, by rw [ho.size]; have := h.size; omega, fun k hk h1 h2 => (ho.block k h1).trans (h.keep k hk h1 h2)⟩

/-- The deferred closure, at the door, whatever the world holds besides. -/
theorem closure_at {w wr : World} {pb n frm : Nat} {bud : Option Nat} {s : Plain.St} {left : Int} (h : LoopAt w wr pb bud n s left) (hG : Plain.Good (4 * n) frm s) (hn : n ≤ 65536) (u : FrameMode) :
    CallsD Try.prog 27 #[.pointer (some ⟨w.heap.size + 1 + 1, 0, none⟩), .pointer (some ⟨w.heap.size, 0, none⟩)] u wr fun e u' w' => u' = u ∧ (e = .returned (.tuple #[]) ∧ OnlyAt pb wr w') := by
  obtain ⟨g, cap, hq⟩ := h.queue
  have hge := hq.gne
  have hp := h.plt
  refine closure_any (w.heap.size + 1 + 1) w.heap.size g cap pb (4 * n) s.q _ u wr (hq.box.cell Nat.zero_lt_one) (h.pbox.cell Nat.zero_lt_one) (fun k hk => hq.cell hk) (fun k hk => ?_) (by have := hG.len; omega) (by omega) (by omega) h.par
  rw [List.getD, List.getElem?_eq_getElem hk]
  exact hG.lt _ (List.getElem_mem hk)

/-- The walk as it lies in memory. -/
def WalkIs (w' : World) (wv : Value) (u : Int) (tgt : Nat) (s : Plain.St) : Prop :=
  (s.par tgt = -2 ∧ wv = .slice none 0 0) ∨ (s.par tgt ≠ -2 ∧ ∃ g cap, wv = .slice (some ⟨g, 0, none⟩) (Plain.walk u tgt s).length cap ∧ ∀ k, k < (Plain.walk u tgt s).length → w'.cell? ⟨g, k, none⟩ = some (.int .i64 ((Plain.walk u tgt s).getD k 0)))

/-- The end of the search: cut, or at its goal. -/
def Answer (w' : World) (bud : Option Nat) (T K : List (List Int)) (u tgt frm : Nat) (left : Int) (e : Ending) : Prop :=
  ∃ i, (∀ k, k < i → ¬ Plain.stop tgt (Plain.bfs T K u tgt frm k) k) ∧
    ((bud ≠ none ∧ ¬ Plain.stop tgt (Plain.bfs T K u tgt frm i) i ∧ left < Plain.spent T K u tgt frm (i + 1) ∧ e = .returned (.tuple #[.slice none 0 0, .bool false])) ∨
     (Plain.stop tgt (Plain.bfs T K u tgt frm i) i ∧ ∃ wv, e = .returned (.tuple #[wv, .bool true]) ∧ WalkIs w' wv u tgt (Plain.bfs T K u tgt frm i)))

end Go.Proofs.Qxb6600624a
