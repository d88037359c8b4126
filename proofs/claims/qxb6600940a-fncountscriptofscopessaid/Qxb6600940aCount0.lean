/-
  DERIVED. count: what its loops pass on.
-/
import Derived.Test.Qxb6600940aCountLaw
namespace Go.Proofs.Qxb6600940a
open Go.RowKit

theorem Try.info68 : (Try.prog.info? 68).map (fun i => (i.zero, i.size, i.bytes)) = some (some (.pointer none), 1, 8) := by kernel_rfl
theorem zero68 : ∀ w, (zeroValue 68).run Try.prog w = .ok (.pointer none) w := fun w => by
  obtain ⟨i, hi, hz, _, _⟩ := info_parts Try.info68
  simp [zeroValue, typeInfo, hi, hz]

def ptrs (L : List (Nat × (Nat → Bool))) : List Value := L.map (fun l => .pointer (some ⟨l.1, 0, none⟩))
theorem ptrs_len (L : List (Nat × (Nat → Bool))) : (ptrs L).length = L.length := by simp [ptrs]
def scF (sv : Value) (sc st : ByteArray) : Nat → Value := fun i => if i = 0 then sv else if i = 1 then .string sc else if i = 2 then .string st else .int .i32 0

/-- The state of count: the index, the lists gathered, the scope's box. -/
def CS (I : Ix) (W w1 : World) (sb : Nat) (sv : Value) (sc st : ByteArray) (marked : Int) (mk : Nat → Int) (lv : Value) (Ls : List (Nat × (Nat → Bool))) : Prop :=
  I.Dyn W w1 marked mk lv Ls.length (ptrs Ls) ∧ w1.rowIs sb 56 4 (scF sv sc st) ∧ lv.ownBlock ≠ some sb ∧ I.fb < sb

/-- lists[:0]. -/
theorem cut_lists {w : World} {B m : Nat} {lv : Value} {xs : List Value} (h : w.ownsRow B 68 1 lv m xs) :
    ∃ la lc lc0, lv = .slice la m lc ∧ (∀ w : World, (Instr.slice 50 (.slice la m lc) none (some (.int .i64 0)) none).run Try.prog w = .ok (.slice la 0 lc0) w) ∧ w.ownsRow B 68 1 (.slice la 0 lc0) 0 [] := by
  rcases h.2 with ⟨rfl, rfl⟩ | ⟨g, cap, cur, rfl, hb, hg, hnc, hcm, hcs, _⟩
  · refine ⟨none, 0, 0, rfl, fun w => ?_, World.ownsRow_nil _ _ _ _⟩
    rw [run_slice_h (P := Try.prog) w 50 _ _ _ Try.underlying50 .i64 0 (by omega) (by omega)]
    simp [go_sem]
  · refine ⟨some ⟨g, 0, none⟩, cap, cap, rfl, fun w => ?_, ⟨by simp, .inr ⟨g, cap, cur, rfl, hb, hg, Nat.zero_le _, hcm, hcs, by simp⟩⟩⟩
    rw [run_slice_h (P := Try.prog) w 50 _ _ _ Try.underlying50 .i64 0 (by omega) (by omega)]
    simp [go_sem, Addr.add]

theorem CS.start {I : Ix} {W wr : World} {marked : Int} {mk : Nat → Int} {lv : Value} {m : Nat} {xs : List Value} (h : I.Dyn W wr marked mk lv m xs) (hs : I.Stat W) (sv : Value) (sc st : ByteArray) {lv0 : Value} (ho : wr.ownsRow (I.fb + 1) 68 1 lv0 0 []) :
    CS I W ((wr.setCell ⟨I.fb, 3, none⟩ lv0).alloc (.cells #[sv, .string sc, .string st, .int .i32 0] 56)) wr.heap.size sv sc st marked mk lv0 [] := by
  have hfb : I.fb < wr.heap.size := h.f.lt
  have hd := h.append hs (lv' := lv0) (m' := 0) (xs' := []) ⟨rfl, rfl, rfl, Nat.le_refl _, fun _ _ _ => rfl⟩ ho
  have hsz : (wr.setCell ⟨I.fb, 3, none⟩ lv0).heap.size = wr.heap.size := by simp [World.setCell]
  refine ⟨hd.later hs ((Below.refl _ _).alloc (Nat.le_refl _) _), ?_, fun e => ?_, hfb⟩
  · rw [← hsz]
    refine World.rowIs_alloc _ _ 56 (scF sv sc st) (fun i hi => ?_)
    have hi' : i < 4 := hi
    have : i = 0 ∨ i = 1 ∨ i = 2 ∨ i = 3 := by omega
    rcases this with rfl | rfl | rfl | rfl <;> rfl
  · have := (ho.lt _ e).2; omega

theorem CS.later {I : Ix} {W w1 w2 : World} {sb : Nat} {sv : Value} {sc st : ByteArray} {marked : Int} {mk : Nat → Int} {lv : Value} {Ls : List (Nat × (Nat → Bool))} (h : CS I W w1 sb sv sc st marked mk lv Ls) (hs : I.Stat W) (hb : Below w1.heap.size w1 w2) : CS I W w2 sb sv sc st marked mk lv Ls :=
  ⟨h.1.later hs hb, h.2.1.of_block (hb.block _ h.2.1.lt), h.2.2⟩

/-- One list more. -/
theorem CS.append {I : Ix} {W w1 w2 : World} {sb : Nat} {sv : Value} {sc st : ByteArray} {marked : Int} {mk : Nat → Int} {lv lv' : Value} {Ls : List (Nat × (Nat → Bool))} (h : CS I W w1 sb sv sc st marked mk lv Ls) (hs : I.Stat W) (hg : w1.grownBy w2 lv.ownBlock) (l : Nat × (Nat → Bool))
    (ho : w2.ownsRow (I.fb + 1) 68 1 lv' (Ls.length + 1) (ptrs Ls ++ [.pointer (some ⟨l.1, 0, none⟩)])) (hb : lv'.ownBlock = lv.ownBlock ∨ lv'.ownBlock = some w1.heap.size) :
    CS I W (w2.setCell ⟨I.fb, 3, none⟩ lv') sb sv sc st marked mk lv' (Ls ++ [l]) := by
  obtain ⟨h1, h2, h3, h4⟩ := h
  refine ⟨?_, ?_, ?_, h4⟩
  · have := h1.append hs hg ho
    simpa [ptrs] using this
  · exact (h2.of_block (hg.block _ h2.lt (fun e => h3 e.symm))).setOther (a := ⟨I.fb, 3, none⟩) (by show sb ≠ I.fb; omega) _
  · rcases hb with hb | hb
    · rw [hb]; exact h3
    · rw [hb]; have := h2.lt; simp; omega

theorem news_at (w : World) (n : Nat) (x : Value) (t : TypeId) (hn : w.heap.size = n) : ∀ j u, [x][j]? = some u → (w.alloc (.cells #[x] t)).cell? ((⟨n, 0, none⟩ : Addr).add j) = some u := by
  subst hn
  exact cell_one_new w x t
theorem one_ptr (p : Option Addr) : ∀ u ∈ [Value.pointer p], u.oneCell' = true := by
  intro u hu
  simp at hu
  subst hu
  rfl

end Go.Proofs.Qxb6600940a
