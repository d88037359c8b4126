/-
  DERIVED. What count passes on from step to step.
-/
import Derived.Test.Qxb6603051aPlain
namespace Go.Proofs.Qxb6603051a
open Go.RowKit Go.Maps

/-- Rows of cells are as they were. -/
structure CellsKept (w w' : World) : Prop where
  os : w'.os = w.os
  tape : w'.tape = w.tape
  output : w'.output = w.output
  size : w.heap.size ≤ w'.heap.size
  block : ∀ (b : Nat) (c : Array Value) (t : TypeId) (fr : Nat × Nat), w.heap[b]? = some (Obj.cells c t fr) → w'.heap[b]? = w.heap[b]?

theorem cells_refl (w : World) : CellsKept w w := ⟨rfl, rfl, rfl, Nat.le_refl _, fun _ _ _ _ _ => rfl⟩
theorem CellsKept.trans {a b c : World} (h : CellsKept a b) (k : CellsKept b c) : CellsKept a c :=
  ⟨k.os.trans h.os, k.tape.trans h.tape, k.output.trans h.output, Nat.le_trans h.size k.size, fun q x t fr hq => (k.block q x t fr ((h.block q x t fr hq).trans hq)).trans (h.block q x t fr hq)⟩
theorem cells_below {w w' : World} (h : Below w.heap.size w w') : CellsKept w w' :=
  ⟨h.os, h.tape, h.output, h.size, fun b c t fr hb => h.block b (by
    rcases Nat.lt_or_ge b w.heap.size with hlt | hge
    · exact hlt
    · rw [Array.getElem?_eq_none hge] at hb; cases hb)⟩
theorem mapIs_block {w : World} {b n c : Nat} {f : Value → Option Value} (h : MapIs Try.prog 9 w b n c f) : ∃ es clock, w.heap[b]? = some (.map es clock) := by
  obtain ⟨D, ⟨es, clock, hb, _⟩, _⟩ := h; exact ⟨es, clock, hb⟩
theorem cells_grown {w w' : World} {r : Option Nat} (h : w.grownBy w' r) (hr : ∀ q, r = some q → ∃ es clock, w.heap[q]? = some (.map es clock)) : CellsKept w w' :=
  ⟨h.os, h.tape, h.output, h.size, fun b c t fr hb => h.block b (by
    rcases Nat.lt_or_ge b w.heap.size with hlt | hge
    · exact hlt
    · rw [Array.getElem?_eq_none hge] at hb; cases hb) (fun e => by
      obtain ⟨es, clock, hm⟩ := hr b e.symm
      rw [hb] at hm; cases hm)⟩
theorem CellsKept.set {w0 w : World} (h : CellsKept w0 w) {a : Addr} (ha : w0.heap.size ≤ a.block) (v : Value) : CellsKept w0 (w.setCell a v) :=
  ⟨h.os, h.tape, h.output, by have := h.size; simpa [World.setCell] using this, fun b c t fr hb => (Below.heap_setCell _ _ _ _ (by
    intro e
    rw [e, Array.getElem?_eq_none ha] at hb; cases hb)).trans (h.block b c t fr hb)⟩

theorem cell_block {w : World} {a : Addr} {v : Value} (h : w.cell? a = some v) : ∃ c t fr, w.heap[a.block]? = some (.cells c t fr) := by
  unfold World.cell? at h
  split at h
  · rename_i c t fr he
    exact ⟨c, t, fr, he⟩
  · cases h
theorem CellsKept.cell {w w' : World} (h : CellsKept w w') {a : Addr} {v : Value} (hc : w.cell? a = some v) : w'.cell? a = some v := by
  obtain ⟨c, t, fr, hb⟩ := cell_block hc
  exact (World.cell?_of_block (h.block _ c t fr hb)).trans hc
theorem CellsKept.strs {w w' : World} (h : CellsKept w w') {v : Value} {S : List ByteArray} (hs : Strs w v S) : Strs w' v S := by
  obtain ⟨a, cap, rfl, hn, hl, hc⟩ := hs
  refine ⟨a, cap, rfl, hn, hl, fun k hk => ?_⟩
  obtain ⟨h1, b, o, h2, h3⟩ := hc k hk
  exact ⟨h1, b, o, h2, h.cell h3⟩
theorem rowIs_block {w : World} {b : Nat} {t : TypeId} {n : Nat} {f : Nat → Value} (h : w.rowIs b t n f) (hn : 0 < n) : ∃ c t fr, w.heap[b]? = some (.cells c t fr) := cell_block (a := ⟨b, 0, none⟩) (h.cell hn)
theorem CellsKept.row {w w' : World} (h : CellsKept w w') {b : Nat} {t : TypeId} {n : Nat} {f : Nat → Value} (hr : w.rowIs b t n f) (hn : 0 < n) : w'.rowIs b t n f := by
  obtain ⟨c, t', fr, hb⟩ := rowIs_block hr hn
  exact hr.of_block (h.block _ c t' fr hb)

/-- All that Held holds. -/
structure HS (w : World) (hb n : Nat) (s : Abs) (fm : ByteArray → Option Nat) : Prop where
  tab : ∃ m dom, m ≤ n ∧ HT w hb m dom s.R s.L fm
  fol : ∀ i, FV w (fm i) n (s.F i)
  up : ∀ i b, fm i = some b → hb < b
  inj : ∀ i j b, fm i = some b → fm j = some b → i = j

section
variable {w w' : World} {hb n : Nat} {s : Abs} {fm : ByteArray → Option Nat}

theorem HS.lt (h : HS w hb n s fm) : hb < w.heap.size := by obtain ⟨m, dom, _, ht⟩ := h.tab; exact ht.lt
theorem HS.mono {n' : Nat} (h : HS w hb n s fm) (hn : n ≤ n') : HS w hb n' s fm := by
  obtain ⟨m, dom, h1, h2⟩ := h.tab
  exact ⟨⟨m, dom, by omega, h2⟩, fun i => (h.fol i).mono hn, h.up, h.inj⟩
theorem HS.later (h : HS w hb n s fm) (hb' : Below w.heap.size w w') : HS w' hb n s fm := by
  obtain ⟨m, dom, h1, h2⟩ := h.tab
  exact ⟨⟨m, dom, h1, h2.of_block (hb'.block _ h2.lt)⟩, fun i => (h.fol i).of_block (fun b e => hb'.block _ ((h.fol i).lt e)), h.up, h.inj⟩
theorem HS.map (h : HS w hb n s fm) : ∃ es clock, w.heap[hb]? = some (.map es clock) := by
  obtain ⟨m, dom, _, ht⟩ := h.tab
  obtain ⟨f, h1, _⟩ := ht.map
  exact mapIs_block h1
theorem FV.map {mb : Option Nat} {g : ByteArray → Int} (h : FV w mb n g) {b : Nat} (hb : mb = some b) : ∃ es clock, w.heap[b]? = some (.map es clock) := by
  rcases h with ⟨h, _⟩ | ⟨b', m, dom, h1, _, ⟨_, f, h3, _⟩, _⟩
  · rw [h] at hb; cases hb
  · rw [h1] at hb; cases hb; exact mapIs_block h3

/-- A cell of a row that is no map is stored. -/
theorem HS.store (h : HS w hb n s fm) {a : Addr} {c : Array Value} {t : TypeId} {fr : Nat × Nat} (ha : w.heap[a.block]? = some (.cells c t fr)) (v : Value) : HS (w.setCell a v) hb n s fm := by
  obtain ⟨m, dom, h1, h2⟩ := h.tab
  have ne : ∀ {b}, (∃ es clock, w.heap[b]? = some (.map es clock)) → b ≠ a.block := fun {b} hm e => by
    obtain ⟨es, clock, hm⟩ := hm
    rw [e, ha] at hm; cases hm
  exact ⟨⟨m, dom, h1, h2.of_block (Below.heap_setCell _ _ _ _ (ne h.map))⟩, fun i => (h.fol i).of_block (fun b e => Below.heap_setCell _ _ _ _ (ne ((h.fol i).map e))), h.up, h.inj⟩

/-- Behind set: the node x holds another load, its followers m. -/
theorem HS.set (h : HS w hb n s fm) (x : ByteArray) (r l : Int) (hs : SetTo w hb (n + 1) (gupd s.R x r) (gupd s.L x l) (fupd fm x (fm x)) w') : HS w' hb (n + 1) ⟨gupd s.R x r, gupd s.L x l, s.F⟩ fm := by
  obtain ⟨n', dom, h1, h2, h3⟩ := hs
  have e : fupd fm x (fm x) = fm := funext fun y => by
    unfold fupd
    split
    · rename_i e; rw [e]
    · rfl
  rw [e] at h2
  exact ⟨⟨n', dom, h1, h2⟩, fun i => ((h.fol i).mono (by omega)).of_block (fun b e => h3.block b ((h.fol i).lt e) (by have := h.up i b e; simp; omega)), h.up, h.inj⟩
end

theorem gupd_id (g : ByteArray → Int) (x : ByteArray) : gupd g x (g x) = g := funext fun y => by
  unfold gupd
  split
  · rename_i e; rw [e]
  · rfl

/-- While the leader's followers are counted: its own are mb, g. -/
structure HH (w : World) (hb n : Nat) (s : Abs) (fm : ByteArray → Option Nat) (ld : ByteArray) (mb : Option Nat) (g : ByteArray → Int) : Prop where
  tab : ∃ m dom, m ≤ n ∧ HT w hb m dom s.R s.L fm
  fol : ∀ i, i ≠ ld → FV w (fm i) n (s.F i)
  own : FV w mb n g
  up : ∀ i b, fm i = some b → hb < b
  inj : ∀ i j b, fm i = some b → fm j = some b → i = j
  upm : ∀ b, mb = some b → hb < b
  apart : ∀ i b, i ≠ ld → fm i = some b → mb ≠ some b

section
variable {w w' : World} {hb n : Nat} {s : Abs} {fm : ByteArray → Option Nat} {ld : ByteArray} {mb : Option Nat} {g : ByteArray → Int}

theorem HS.open (h : HS w hb n s fm) (ld : ByteArray) : HH w hb n s fm ld (fm ld) (s.F ld) :=
  ⟨h.tab, fun i _ => h.fol i, h.fol ld, h.up, h.inj, h.up ld, fun i b hi e e' => hi (h.inj i ld b e e')⟩

theorem HH.later (h : HH w hb n s fm ld mb g) (hb' : Below w.heap.size w w') : HH w' hb n s fm ld mb g := by
  obtain ⟨m, dom, h1, h2⟩ := h.tab
  exact ⟨⟨m, dom, h1, h2.of_block (hb'.block _ h2.lt)⟩, fun i hi => (h.fol i hi).of_block (fun b e => hb'.block _ ((h.fol i hi).lt e)), h.own.of_block (fun b e => hb'.block _ (h.own.lt e)), h.up, h.inj, h.upm, h.apart⟩

theorem HH.map (h : HH w hb n s fm ld mb g) : ∃ es clock, w.heap[hb]? = some (.map es clock) := by
  obtain ⟨m, dom, _, ht⟩ := h.tab
  obtain ⟨f, h1, _⟩ := ht.map
  exact mapIs_block h1

theorem HH.store (h : HH w hb n s fm ld mb g) {a : Addr} {c : Array Value} {t : TypeId} {fr : Nat × Nat} (ha : w.heap[a.block]? = some (.cells c t fr)) (v : Value) : HH (w.setCell a v) hb n s fm ld mb g := by
  obtain ⟨m, dom, h1, h2⟩ := h.tab
  have ne : ∀ {b}, (∃ es clock, w.heap[b]? = some (.map es clock)) → b ≠ a.block := fun {b} hm e => by
    obtain ⟨es, clock, hm⟩ := hm
    rw [e, ha] at hm; cases hm
  exact ⟨⟨m, dom, h1, h2.of_block (Below.heap_setCell _ _ _ _ (ne h.map))⟩, fun i hi => (h.fol i hi).of_block (fun b e => Below.heap_setCell _ _ _ _ (ne ((h.fol i hi).map e))), h.own.of_block (fun b e => Below.heap_setCell _ _ _ _ (ne (h.own.map e))), h.up, h.inj, h.upm, h.apart⟩

/-- Behind addCount. -/
theorem HH.add (h : HH w hb n s fm ld mb g) {mb' : Option Nat} {g' : ByteArray → Int} (hF : FV w' mb' (n + 1) g') (hg : w.grownBy w' mb) (hm : ∀ b, mb' = some b → mb = some b ∨ w.heap.size ≤ b) : HH w' hb (n + 1) s fm ld mb' g' := by
  obtain ⟨m, dom, h1, h2⟩ := h.tab
  refine ⟨⟨m, dom, by omega, h2.of_block (hg.block _ h2.lt (fun e => by have := h.upm hb e.symm; omega))⟩, fun i hi => ((h.fol i hi).mono (by omega)).of_block (fun b e => hg.block b ((h.fol i hi).lt e) (fun e' => h.apart i b hi e e'.symm)), hF, h.up, h.inj, fun b e => ?_, fun i b hi e e' => ?_⟩
  · rcases hm b e with h' | h'
    · exact h.upm b h'
    · have := h2.lt; omega
  · rcases hm b e' with h' | h'
    · exact h.apart i b hi e h'
    · have := (h.fol i hi).lt e; omega

/-- Behind the leader's set. -/
theorem HH.shut (h : HH w hb n s fm ld mb g) (l : Int) (hs : SetTo w hb (n + 1) (gupd s.R ld (s.R ld)) (gupd s.L ld l) (fupd fm ld mb) w') : HS w' hb (n + 1) ⟨s.R, gupd s.L ld l, folUpd s.F ld g⟩ (fupd fm ld mb) := by
  obtain ⟨n', dom, h1, h2, h3⟩ := hs
  rw [gupd_id] at h2
  refine ⟨⟨n', dom, h1, h2⟩, fun i => ?_, fun i b e => ?_, fun i j b e e' => ?_⟩
  · show FV w' (fupd fm ld mb i) (n + 1) (folUpd s.F ld g i)
    unfold fupd folUpd
    by_cases ei : i = ld
    · rw [if_pos ei, if_pos ei]
      exact (h.own.mono (by omega)).of_block (fun b e => h3.block b (h.own.lt e) (by have := h.upm b e; simp; omega))
    · rw [if_neg ei, if_neg ei]
      exact ((h.fol i ei).mono (by omega)).of_block (fun b e => h3.block b ((h.fol i ei).lt e) (by have := h.up i b e; simp; omega))
  · unfold fupd at e
    by_cases ei : i = ld
    · rw [if_pos ei] at e; exact h.upm b e
    · rw [if_neg ei] at e; exact h.up i b e
  · unfold fupd at e e'
    by_cases ei : i = ld
    · by_cases ej : j = ld
      · rw [ei, ej]
      · rw [if_pos ei] at e; rw [if_neg ej] at e'; exact absurd e (h.apart j b ej e')
    · by_cases ej : j = ld
      · rw [if_neg ei] at e; rw [if_pos ej] at e'; exact absurd e' (h.apart i b ei e)
      · rw [if_neg ei] at e; rw [if_neg ej] at e'; exact h.inj i j b e e'
end

end Go.Proofs.Qxb6603051a
