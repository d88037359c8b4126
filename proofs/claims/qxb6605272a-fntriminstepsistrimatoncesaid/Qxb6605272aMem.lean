/-
  DERIVED. Rows of pointers, new ones, copies.
-/
import Derived.Test.Qxb6605272aRows
import Derived.WalkKit
import Derived.BigQuiet
import Derived.Deep.OwnRows
import Derived.Deep.RegionHeld3
import Derived.Laws.IdiomCopy
import Derived.Lib.SliceRun
import Derived.Lib.LazyBuf
namespace Go.Proofs.Qxb6605272a
open Go.RowKit

theorem z68 : (match Try.prog.info? 68 with | some i => i.zero.isSome | none => false) = true := by kernel_rfl
theorem alloc68 : ∃ z : Array Value, ∀ w : World, ∀ old, (Instr.alloc 68 true old).run Try.prog w = .ok (.pointer (some ⟨w.heap.size, 0, none⟩)) (w.alloc (.cells z 68)) := by
  have h := z68
  cases hq : Try.prog.info? 68 with
  | none => rw [hq] at h; simp at h
  | some i =>
    rw [hq] at h
    cases hz : i.zero with
    | none => simp [hz] at h
    | some z =>
      refine ⟨z.cells, fun w old => ?_⟩
      simp [Instr.alloc, zeroValue, typeInfo, hq, hz, newVar, newRow]

theorem Try.info44 : (Try.prog.info? 44).map (fun i => (i.zero, i.size, i.bytes)) = some (some (.pointer none), 1, 8) := by kernel_rfl

def isP : Value → Prop
  | .pointer _ => True
  | _ => False
theorem isP_one {v : Value} (h : isP v) : v.oneCell' = true := by
  cases v <;> first | rfl | exact absurd h (by simp [isP])
theorem isP_some {v : Value} (h : isP v) : ∃ a, v = .pointer a := by
  cases v <;> first | exact ⟨_, rfl⟩ | exact absurd h (by simp [isP])

/-- A new row g ≥ the old size of n pointers. -/
def RetRow (w : World) (n : Nat) (e : Ending) (w' : World) : Prop :=
  ∃ f : Nat → Value, (∀ i, i < n → isP (f i)) ∧ e = .returned (.slice (some ⟨w.heap.size, 0, none⟩) n n) ∧ w'.rowIs w.heap.size 44 n f ∧ Below w.heap.size w w'
def RetRowF (w : World) (n : Nat) (f : Nat → Value) (e : Ending) (w' : World) : Prop :=
  e = .returned (.slice (some ⟨w.heap.size, 0, none⟩) n n) ∧ w'.rowIs w.heap.size 44 n f ∧ Below w.heap.size w w'

theorem cell_later {w w' : World} {a : Addr} {v : Value} (h : Below w.heap.size w w') (hc : w.cell? a = some v) : w'.cell? a = some v :=
  (World.cell?_of_block (h.block _ (World.block_lt_of_cell? _ _ hc))).trans hc

def NewRow (w wr : World) (n : Nat) : Prop :=
  Below w.heap.size w wr ∧ ∃ f : Nat → Value, (∀ i, i < n → isP (f i)) ∧ wr.rowIs w.heap.size 44 n f

theorem wpList_alloc68 {z : Array Value} (hz : ∀ w : World, ∀ old, (Instr.alloc 68 true old).run Try.prog w = .ok (.pointer (some ⟨w.heap.size, 0, none⟩)) (w.alloc (.cells z 68)))
    {ops : Array Oper} {rest : List Oper} {o : Oper} {a : Act} {w : World} {Q : Exit → Act → World → Prop} (hg : o.guard = none) (ho : o.op = .alloc 68)
    (h : wpList Try.prog ops Q rest (a.put o.dst (.pointer (some ⟨w.heap.size, 0, none⟩))) (w.alloc (.cells z 68))) : wpList Try.prog ops Q (o :: rest) a w := by
  refine wpList_plain hg fun K hK => ?_
  unfold Oper.wp
  have hrun : (execOp a.eval o).run Try.prog w = .ok (.value (.pointer (some ⟨w.heap.size, 0, none⟩))) (w.alloc (.cells z 68)) := by
    simp [execOp, ho, hz]
  rw [hrun, Oper.upon_value]
  exact hK _ _ h

set_option maxHeartbeats 800000 in
theorem newChunks_any (n : Nat) (w : World) (hn0 : 0 < n) (hn : n ≤ 64) : Calls Try.prog 17 #[.int .i64 n] w fun e w' => RetRow w n e w' := by
  obtain ⟨z, hz⟩ := alloc68
  have hmk := run_make_row' (P := Try.prog) 36 44 (.pointer none) 8 Try.underlying36 Try.info44 rfl .i64 .i64 n (by omega) (by omega)
  go_enter Try.func17, Try.ntmps17
  go_wp2
  go_loopw [4] (fun i wr => ∃ k : Nat, k ≤ n ∧ i = .int .i64 k ∧ NewRow w wr n) (fun i _ => n - (intOf i).toNat)
  case atStart => exact ⟨0, Nat.zero_le _, rfl, (Below.refl _ _).alloc (Nat.le_refl _) _, fun _ => .pointer none, fun _ _ => trivial, World.rowIs_made _ _ _ _⟩
  case round =>
    obtain ⟨k, hk, rfl, hB, f, hf, hrow⟩ := hrel
    clear hmk
    by_cases hlt : k < n
    · have hrow2 := hrow.alloc (.cells z 68)
      have c2 := hrow2.cell hlt
      have f2 := hrow2.frozen k
      have HR : Hid (NewRow w ((wr.alloc (.cells z 68)).setCell ⟨w.heap.size, k, none⟩ (.pointer (some ⟨wr.heap.size, 0, none⟩))) n) :=
        ⟨(hB.alloc (hB.size) _).setCell (Nat.le_refl _) _, _, (fun i hi => by
          show isP (if i = k then _ else f i)
          by_cases e : i = k
          · rw [if_pos e]; trivial
          · rw [if_neg e]; exact hf i hi), hrow2.set k _⟩
      have HZ : Hid (∀ w : World, ∀ old, (Instr.alloc 68 true old).run Try.prog w = .ok (.pointer (some ⟨w.heap.size, 0, none⟩)) (w.alloc (.cells z 68))) := hz
      clear hz
      generalize f k = fk at c2
      go_wp2_with (refine wpList_alloc68 HZ.out rfl rfl ?_)
      go_roundw
      case rel => exact ⟨k + 1, by omega, by go_num, HR.out⟩
      case measure => simp [intOf]; omega
    · have : k = n := by omega
      subst this
      go_wp2
      go_ret
      exact ⟨f, hf, rfl, hrow, hB⟩

end Go.Proofs.Qxb6605272a
