/-
  DERIVED. A copy of a row; the log's maker, its readers and its setter.
-/
import Derived.Test.Qxb6605272aMem
namespace Go.Proofs.Qxb6605272a
open Go.RowKit

def CopyRow (w wr : World) (n k : Nat) (f : Nat → Value) : Prop :=
  Below w.heap.size w wr ∧ wr.rowIs w.heap.size 44 n (fun i => if i < k then f i else .pointer none)

set_option maxHeartbeats 800000 in
theorem copyChunks_any (g n : Nat) (f : Nat → Value) (w : World) (hf : ∀ i, i < n → isP (f i)) (hr : w.rowIs g 44 n f) (hn0 : 0 < n) (hn : n ≤ 64) :
    Calls Try.prog 18 #[.slice (some ⟨g, 0, none⟩) n n] w fun e w' => RetRowF w n f e w' := by
  have hmk := run_make_row' (P := Try.prog) 36 44 (.pointer none) 8 Try.underlying36 Try.info44 rfl .i64 .i64 n (by omega) (by omega)
  go_enter Try.func18, Try.ntmps18
  go_wp2
  go_loopw [4] (fun i wr => ∃ k : Nat, k ≤ n ∧ i = .int .i64 k ∧ CopyRow w wr n k f) (fun i _ => n - (intOf i).toNat)
  case atStart => exact ⟨0, Nat.zero_le _, rfl, (Below.refl _ _).alloc (Nat.le_refl _) _, (World.rowIs_made _ _ _ _).congr (fun j _ => by simp)⟩
  case round =>
    obtain ⟨k, hk, rfl, hB, hrow⟩ := hrel
    clear hmk
    by_cases hlt : k < n
    · have c1 := cell_later hB (hr.cell hlt)
      have c2 := hrow.cell hlt
      rw [if_neg (Nat.lt_irrefl _)] at c2
      have f2 := hrow.frozen k
      have HR : Hid (CopyRow w (wr.setCell ⟨w.heap.size, k, none⟩ (f k)) n (k + 1) f) :=
        ⟨hB.setCell (Nat.le_refl _) _, (hrow.set k _).congr (fun i _ => by
          by_cases e : i = k
          · subst e; simp
          · rw [if_neg e]
            by_cases hlt : i < k
            · rw [if_pos hlt, if_pos (by omega)]
            · rw [if_neg hlt, if_neg (by omega)])⟩
      obtain ⟨p, hp⟩ := isP_some (hf k hlt)
      rw [hp] at c1 HR
      go_wp2
      go_roundw
      case rel => exact ⟨k + 1, by omega, by go_num, HR.out⟩
      case measure => simp [intOf]; omega
    · have : k = n := by omega
      subst this
      go_wp2
      go_ret
      exact ⟨rfl, hrow.congr (fun i hi => by rw [if_pos hi]), hB⟩

/-- The nine cells of a log. -/
def logF (fl : Nat) (ch : Value) (st n : Nat) (z : Nat → Value) : Nat → Value := fun i => if i = 5 then .int .u64 fl else if i = 6 then ch else if i = 7 then .int .u64 st else if i = 8 then .int .u64 n else z i
def RetLog (w : World) (fl : Nat) (ch : Value) (st n : Nat) (e : Ending) (w' : World) : Prop :=
  ∃ z, e = .returned (.pointer (some ⟨w.heap.size, 0, none⟩)) ∧ w'.rowIs w.heap.size 72 9 (logF fl ch st n z) ∧ Below w.heap.size w w'

theorem makeLog_any (fl st n : Nat) (p : Option Addr) (l c : Nat) (w : World) : Calls Try.prog 19 #[.int .u64 fl, .slice p l c, .int .u64 st, .int .u64 n] w fun e w' => RetLog w fl (.slice p l c) st n e w' := by
  go_enter Try.func19, Try.ntmps19
  go_wp2
  go_ret
  refine ⟨fun i => #[Value.slice none 0 0, Value.int IntKind.i64 0, Value.int IntKind.i64 0, Value.int IntKind.u64 0, Value.bool false].getD i (.bool false), rfl, World.rowIs_alloc _ _ _ _ (fun i hi => ?_), (Below.refl _ _).alloc (Nat.le_refl _) _⟩
  have hi' : i < 9 := hi
  have : i = 0 ∨ i = 1 ∨ i = 2 ∨ i = 3 ∨ i = 4 ∨ i = 5 ∨ i = 6 ∨ i = 7 ∨ i = 8 := by omega
  rcases this with rfl | rfl | rfl | rfl | rfl | rfl | rfl | rfl | rfl <;> rfl

/-- Only the blocks of S have turned. -/
structure Kept (S : Nat → Prop) (w w' : World) : Prop where
  os : w'.os = w.os
  tape : w'.tape = w.tape
  output : w'.output = w.output
  size : w'.heap.size = w.heap.size
  block : ∀ k, ¬ S k → w'.heap[k]? = w.heap[k]?
theorem Kept.refl (S : Nat → Prop) (w : World) : Kept S w w := ⟨rfl, rfl, rfl, rfl, fun _ _ => rfl⟩
theorem Kept.trans {S : Nat → Prop} {a b c : World} (h : Kept S a b) (h' : Kept S b c) : Kept S a c :=
  ⟨h'.os.trans h.os, h'.tape.trans h.tape, h'.output.trans h.output, h'.size.trans h.size, fun k hk => (h'.block k hk).trans (h.block k hk)⟩
theorem Kept.mono {S T : Nat → Prop} {a b : World} (h : Kept S a b) (hs : ∀ k, S k → T k) : Kept T a b :=
  ⟨h.os, h.tape, h.output, h.size, fun k hk => h.block k (fun x => hk (hs k x))⟩
theorem Kept.setCell {S : Nat → Prop} {a b : World} (h : Kept S a b) (x : Addr) (hx : S x.block) (v : Value) : Kept S a (b.setCell x v) :=
  ⟨h.os, h.tape, h.output, by rw [← h.size]; simp [World.setCell], fun k hk => (Go.Deep.blk_setCell_other b x v k (fun e => hk (by rw [e]; exact hx))).trans (h.block k hk)⟩
theorem Kept.setCells {S : Nat → Prop} {a : World} (g : Nat) (hg : S g) : ∀ (vs : List Value) (o : Nat) (b : World), Kept S a b → Kept S a (b.setCells g o vs)
  | [], _, _, h => h
  | v :: r, o, _, h => Kept.setCells g hg r (o + 1) _ (h.setCell ⟨g, o, none⟩ hg v)
theorem Kept.drewN {S : Nat → Prop} {a b : World} (h : Kept S a b) (n : Nat) : Kept S a (b.drewN n) := ⟨h.os, h.tape, h.output, h.size, h.block⟩
theorem Kept.below {S : Nat → Prop} {a b : World} (h : Kept S a b) (B : Nat) (hB : ∀ k, S k → B ≤ k) : Below B a b :=
  ⟨h.os, h.tape, h.output, by rw [h.size]; exact Nat.le_refl _, fun k hk => h.block k (fun x => by have := hB k x; omega)⟩
theorem Kept.row {S : Nat → Prop} {w w' : World} (h : Kept S w w') {b : Nat} {t : TypeId} {n : Nat} {f : Nat → Value} (hr : w.rowIs b t n f) (hb : ¬ S b) : w'.rowIs b t n f := hr.of_block (h.block b hb)

theorem results_tmp4 {fn : Func} {t u v x : Tmp} (h : fn.results = #[.tmp t, .tmp u, .tmp v, .tmp x]) (tmps : Array Value) (P : Program) (w : World) :
    (results fn tmps).run P w = .ok (.tuple #[tmps.getD t undef, tmps.getD u undef, tmps.getD v undef, tmps.getD x undef]) w := by
  simp [results, h]

def RetParts (w : World) (fl : Nat) (ch : Value) (st n : Nat) (e : Ending) (w' : World) : Prop :=
  e = .returned (.tuple #[.int .u64 fl, ch, .int .u64 st, .int .u64 n]) ∧ Kept (fun _ => False) w w'

theorem parts_any (L fl st n : Nat) (p : Option Addr) (l c : Nat) (z : Nat → Value) (w : World) (hr : w.rowIs L 72 9 (logF fl (.slice p l c) st n z)) :
    Calls Try.prog 21 #[.pointer (some ⟨L, 0, none⟩)] w fun e w' => RetParts w fl (.slice p l c) st n e w' := by
  have c5 : w.cell? ⟨L, 5, none⟩ = some (.int .u64 fl) := hr.cell (i := 5) (by omega)
  have c6 : w.cell? ⟨L, 6, none⟩ = some (.slice p l c) := hr.cell (i := 6) (by omega)
  have c7 : w.cell? ⟨L, 7, none⟩ = some (.int .u64 st) := hr.cell (i := 7) (by omega)
  have c8 : w.cell? ⟨L, 8, none⟩ = some (.int .u64 n) := hr.cell (i := 8) (by omega)
  clear hr
  go_enter Try.func21, Try.ntmps21
  go_wp2
  go_quiet (fail)
  go_wp2
  (try simp only [Exit.inBlock, Exit.then])
  refine bodyPost_ret (results_tmp4 rfl _ _ _) rfl ?_
  exact ⟨rfl, (Kept.refl _ _).drewN _⟩

def RetDone (S : Nat → Prop) (w : World) (P : World → Prop) (e : Ending) (w' : World) : Prop := e = .returned (.tuple #[]) ∧ P w' ∧ Kept S w w'

theorem setFloor_any (L fl fl' st n : Nat) (ch : Value) (z : Nat → Value) (w : World) (hr : w.rowIs L 72 9 (logF fl ch st n z)) :
    Calls Try.prog 22 #[.pointer (some ⟨L, 0, none⟩), .int .u64 fl'] w fun e w' => RetDone (fun b => b = L) w (fun w' => w'.rowIs L 72 9 (logF fl' ch st n z)) e w' := by
  have c5 : w.cell? ⟨L, 5, none⟩ = some (.int .u64 fl) := hr.cell (i := 5) (by omega)
  have f5 := hr.frozen 5
  have HR : Hid (w.rowIs L 72 9 (logF fl ch st n z)) := hr
  clear hr
  go_enter Try.func22, Try.ntmps22
  go_wp2
  go_end0
  refine ⟨rfl, (HR.out.set 5 _).congr (fun i _ => ?_), (Kept.refl (fun b => b = L) w).setCell ⟨L, 5, none⟩ rfl _⟩
  by_cases e : i = 5
  · rw [if_pos e]; simp [logF, e]
  · rw [if_neg e]; simp [logF, e]

end Go.Proofs.Qxb6605272a
