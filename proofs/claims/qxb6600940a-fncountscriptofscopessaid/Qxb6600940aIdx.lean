/-
  DERIVED. The index as it lies in memory: what stands still, what turns, and the steps.
-/
import Derived.Test.Qxb6600940aKeys
namespace Go.Proofs.Qxb6600940a
open Go.RowKit

structure Ix where
  base : Nat
  S1 : Nat
  fb : Nat
  bp : Nat → Nat
  tv : Nat → Value
  T : List (List ByteArray)
  C : List ByteArray
  X : List ByteArray
  D : List Int
  mt : Nat
  ms : Nat
  lt : ByteArray → Nat
  ls : ByteArray → ByteArray → Nat

namespace Ix
def n (I : Ix) : Nat := I.T.length
def top (I : Ix) (t : ByteArray) : Nat → Bool := fun i => inB t (I.T.getD i [])
def sub (I : Ix) (c x : ByteArray) : Nat → Bool := fun i => shares (I.C.getD i ⟨#[]⟩) (I.X.getD i ⟨#[]⟩) c x
def Dn (I : Ix) : Nat → Int := fun i => I.D.getD i 0
def safe (I : Ix) (b : Nat) : Prop := b < I.base ∨ (I.S1 ≤ b ∧ b < I.fb)
def ff (I : Ix) (lv : Value) (marked : Int) : Nat → Value := fun i => if i = 0 then .map none else if i = 1 then .map (some I.mt) else if i = 2 then .map (some I.ms) else if i = 3 then lv else .int .i64 marked
def bf (I : Ix) (i : Nat) (mk : Int) : Nat → Value := fun j => if j = 0 then .string ⟨#[]⟩ else if j = 1 then .string (I.C.getD i ⟨#[]⟩) else if j = 2 then .string (I.X.getD i ⟨#[]⟩) else if j = 3 then I.tv i else if j = 4 then .slice none 0 0 else if j = 5 then .int .i64 (I.Dn i) else .int .i64 mk

/-- Block lp is the list of the bundles that p tells. -/
def ListAt (I : Ix) (W : World) (lp : Nat) (p : Nat → Bool) : Prop :=
  ∃ g cap, I.safe lp ∧ I.safe g ∧ W.cell? ⟨lp, 0, none⟩ = some (.slice (some ⟨g, 0, none⟩) (members p I.n).length cap) ∧ W.cell? ⟨lp, 1, none⟩ = some (.int .i64 (wrap64 (dealsOf I.Dn (members p I.n)))) ∧
    ∀ j, j < (members p I.n).length → W.cell? ⟨g, j, none⟩ = some (.pointer (some ⟨I.bp ((members p I.n).getD j 0), 0, none⟩))

structure Stat (I : Ix) (W : World) : Prop where
  lo : ∀ i, i < I.n → I.base ≤ I.bp i ∧ I.bp i < I.S1
  inj : ∀ i j, i < I.n → j < I.n → I.bp i = I.bp j → i = j
  fbS : I.S1 ≤ I.fb
  fbW : I.fb < W.heap.size
  baseS : I.base ≤ I.S1
  n4 : I.n ≤ 4096
  tops : ∀ i, i < I.n → StrsIn (fun b => b < I.base) W (I.tv i) (I.T.getD i [])
  tlen : ∀ i, i < I.n → (I.T.getD i []).length ≤ 4096
  tasc : ∀ i, i < I.n → Asc (I.T.getD i [])
  mtS : I.safe I.mt
  msS : I.safe I.ms
  mtop : ∃ nn c f, MapIs Try.prog 9 W I.mt nn c f ∧ ∀ t, f (.string t) = if members (I.top t) I.n = [] then none else some (.pointer (some ⟨I.lt t, 0, none⟩))
  msub : ∃ nn c f, MapIs Try.prog 47 W I.ms nn c f ∧ ∀ c x, x ≠ ⟨#[]⟩ → f (.agg #[.string c, .string x]) = if members (I.sub c x) I.n = [] then none else some (.pointer (some ⟨I.ls c x, 0, none⟩))
  ltop : ∀ t, members (I.top t) I.n ≠ [] → I.ListAt W (I.lt t) (I.top t)
  lsub : ∀ c x, x ≠ ⟨#[]⟩ → members (I.sub c x) I.n ≠ [] → I.ListAt W (I.ls c x) (I.sub c x)

structure Dyn (I : Ix) (W wr : World) (marked : Int) (mk : Nat → Int) (lv : Value) (m : Nat) (xs : List Value) : Prop where
  os : wr.os = W.os
  tape : wr.tape = W.tape
  output : wr.output = W.output
  size : W.heap.size ≤ wr.heap.size
  same : ∀ b, I.safe b → wr.heap[b]? = W.heap[b]?
  f : wr.rowIs I.fb 78 5 (I.ff lv marked)
  b : ∀ i, i < I.n → wr.rowIs (I.bp i) 52 7 (I.bf i (mk i))
  own : wr.ownsRow (I.fb + 1) 68 1 lv m xs
end Ix

section
variable {I : Ix} {W wr w' : World} {marked : Int} {mk : Nat → Int} {lv : Value} {m : Nat} {xs : List Value}

theorem Ix.Stat.ne_fb (h : I.Stat W) {i : Nat} (hi : i < I.n) : I.bp i ≠ I.fb := by have := h.lo i hi; have := h.fbS; omega
theorem Ix.Stat.safe_lt (h : I.Stat W) {b : Nat} (hb : I.safe b) : b < I.fb := by rcases hb with hb | hb <;> have := h.fbS <;> have := h.baseS <;> omega
theorem Ix.Stat.safe_fb (h : I.Stat W) {b : Nat} (hb : I.safe b) : b ≠ I.fb := by have := h.safe_lt hb; omega
theorem Ix.Stat.safe_bp (h : I.Stat W) {b i : Nat} (hb : I.safe b) (hi : i < I.n) : b ≠ I.bp i := by rcases hb with hb | hb <;> have := h.lo i hi <;> omega

/-- Nothing old has turned. -/
theorem Ix.Dyn.later (h : I.Dyn W wr marked mk lv m xs) (hs : I.Stat W) (hb : Below wr.heap.size wr w') : I.Dyn W w' marked mk lv m xs where
  os := hb.os.trans h.os
  tape := hb.tape.trans h.tape
  output := hb.output.trans h.output
  size := Nat.le_trans h.size hb.size
  same b hsafe := (hb.block b (by have := hs.safe_lt hsafe; have := hs.fbW; have := h.size; omega)).trans (h.same b hsafe)
  f := h.f.of_block (hb.block _ h.f.lt)
  b i hi := (h.b i hi).of_block (hb.block _ (h.b i hi).lt)
  own := ownsRow_of_block h.own (fun b hbb => hb.block b (h.own.lt b hbb).2)

/-- The lists' buffer has been appended to, and is stored. -/
theorem Ix.Dyn.append (h : I.Dyn W wr marked mk lv m xs) (hs : I.Stat W) (hg : wr.grownBy w' lv.ownBlock) {lv' : Value} {m' : Nat} {xs' : List Value} (ho : w'.ownsRow (I.fb + 1) 68 1 lv' m' xs') :
    I.Dyn W (w'.setCell ⟨I.fb, 3, none⟩ lv') marked mk lv' m' xs' := by
  have hne : ∀ b, b ≤ I.fb → some b ≠ lv.ownBlock := fun b hb e => by have := (h.own.lt b e.symm).1; omega
  have hold : ∀ b, b ≤ I.fb → w'.heap[b]? = wr.heap[b]? := fun b hb => hg.block b (by have := hs.fbW; have := h.size; omega) (hne b hb)
  refine ⟨hg.os.trans h.os, hg.tape.trans h.tape, hg.output.trans h.output, ?_, fun b hsafe => ?_, ?_, fun i hi => ?_, ?_⟩
  · have := hg.size; have := h.size; simp [World.setCell]; omega
  · rw [Go.Deep.blk_setCell_other _ _ _ _ (hs.safe_fb hsafe), hold b (by have := hs.safe_lt hsafe; omega)]; exact h.same b hsafe
  · refine ((h.f.of_block (hold I.fb (Nat.le_refl _))).set 3 lv').congr (fun i _ => ?_)
    by_cases e : i = 3
    · rw [if_pos e]; simp [Ix.ff, e]
    · rw [if_neg e]; simp [Ix.ff, e]
  · have := hs.lo i hi; have := hs.fbS
    exact ((h.b i hi).of_block (hold _ (by omega))).setOther (a := ⟨I.fb, 3, none⟩) (hs.ne_fb hi) _
  · exact ownsRow_of_block ho (fun b hb => Go.Deep.blk_setCell_other _ _ _ _ (by have := (ho.lt b hb).1; show b ≠ I.fb; omega))

/-- The mark of all marks. -/
theorem Ix.Dyn.newMark (h : I.Dyn W wr marked mk lv m xs) (hs : I.Stat W) (marked' : Int) : I.Dyn W (wr.setCell ⟨I.fb, 4, none⟩ (.int .i64 marked')) marked' mk lv m xs := by
  refine ⟨h.os, h.tape, h.output, by simpa [World.setCell] using h.size, fun b hsafe => ?_, ?_, fun i hi => (h.b i hi).setOther (a := ⟨I.fb, 4, none⟩) (hs.ne_fb hi) _, ?_⟩
  · rw [Go.Deep.blk_setCell_other _ _ _ _ (hs.safe_fb hsafe)]; exact h.same b hsafe
  · refine (h.f.set 4 _).congr (fun i hi => ?_)
    have : i = 0 ∨ i = 1 ∨ i = 2 ∨ i = 3 ∨ i = 4 := by omega
    rcases this with rfl | rfl | rfl | rfl | rfl <;> simp [Ix.ff]
  · exact ownsRow_of_block h.own (fun b hb => Go.Deep.blk_setCell_other _ _ _ _ (by have := (h.own.lt b hb).1; show b ≠ I.fb; omega))

/-- Bundle i is marked. -/
theorem Ix.Dyn.mark (h : I.Dyn W wr marked mk lv m xs) (hs : I.Stat W) {i : Nat} (hi : i < I.n) (v : Int) : I.Dyn W (wr.setCell ⟨I.bp i, 6, none⟩ (.int .i64 v)) marked (fun j => if j = i then v else mk j) lv m xs := by
  refine ⟨h.os, h.tape, h.output, by simpa [World.setCell] using h.size, fun b hsafe => ?_, h.f.setOther (a := ⟨I.bp i, 6, none⟩) (fun e => hs.ne_fb hi e.symm) _, fun j hj => ?_, ?_⟩
  · rw [Go.Deep.blk_setCell_other _ _ _ _ (hs.safe_bp hsafe hi)]; exact h.same b hsafe
  · by_cases e : j = i
    · subst e
      refine ((h.b j hj).set 6 _).congr (fun k hk => ?_)
      have : k = 0 ∨ k = 1 ∨ k = 2 ∨ k = 3 ∨ k = 4 ∨ k = 5 ∨ k = 6 := by omega
      rcases this with rfl | rfl | rfl | rfl | rfl | rfl | rfl <;> simp [Ix.bf]
    · rw [if_neg e]
      exact (h.b j hj).setOther (a := ⟨I.bp i, 6, none⟩) (fun e' => e (hs.inj j i hj hi e')) _
  · exact ownsRow_of_block h.own (fun b hb => Go.Deep.blk_setCell_other _ _ _ _ (by have := (h.own.lt b hb).1; have := hs.lo i hi; have := hs.fbS; show b ≠ I.bp i; omega))

/-- A cell of what stands still. -/
theorem Ix.Dyn.cell (h : I.Dyn W wr marked mk lv m xs) {a : Addr} {v : Value} (ha : I.safe a.block) (hc : W.cell? a = some v) : wr.cell? a = some v := (World.cell?_of_block (h.same _ ha)).trans hc

theorem Ix.Dyn.listAt (h : I.Dyn W wr marked mk lv m xs) {lp : Nat} {p : Nat → Bool} (hl : I.ListAt W lp p) : I.ListAt wr lp p := by
  obtain ⟨g, cap, s1, s2, c0, c1, hr⟩ := hl
  exact ⟨g, cap, s1, s2, h.cell s1 c0, h.cell s1 c1, fun j hj => h.cell s2 (hr j hj)⟩
end

end Go.Proofs.Qxb6600940a
