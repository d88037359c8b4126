/-
  DERIVED. The small makers.
-/
import Derived.Test.Qxb6600940aFam
namespace Go.Proofs.Qxb6600940a
open Go.RowKit

def bundleCells (a : Option Addr) (n c : Nat) (bc bt : ByteArray) (d : Int) : Array Value := #[.string ⟨#[]⟩, .string bc, .string bt, .slice a n c, .slice none 0 0, .int .i64 d, .int .i64 0]
def listCells (a : Option Addr) (n c : Nat) (d e : Int) : Array Value := #[.slice a n c, .int .i64 d, .int .i64 e]
def Boxed (w : World) (t : TypeId) (c : Array Value) (e : Ending) (w' : World) : Prop := e = .returned (.pointer (some ⟨w.heap.size, 0, none⟩)) ∧ w' = w.alloc (.cells c t)

theorem newBundle_any (a : Option Addr) (n c : Nat) (bc bt : ByteArray) (d : Int) (w : World) : Calls Try.prog 35 #[.slice a n c, .string bc, .string bt, .int .i64 d] w fun e w' => Boxed w 52 (bundleCells a n c bc bt d) e w' := by
  go_enter Try.func35, Try.ntmps35
  go_wp2
  go_ret
  exact ⟨rfl, rfl⟩

theorem newList_any (a : Option Addr) (n c : Nat) (d x : Int) (w : World) : Calls Try.prog 36 #[.slice a n c, .int .i64 d, .int .i64 x] w fun e w' => Boxed w 75 (listCells a n c d x) e w' := by
  go_enter Try.func36, Try.ntmps36
  go_wp2
  go_ret
  exact ⟨rfl, rfl⟩

def Subj (w : World) (bc bt : ByteArray) (e : Ending) (w' : World) : Prop := e = .returned (.agg #[.string bc, .string bt]) ∧ w' = w.alloc (.cells #[.string bc, .string bt] 47)
theorem makeSubject_any (bc bt : ByteArray) (w : World) : Calls Try.prog 37 #[.string bc, .string bt] w fun e w' => Subj w bc bt e w' := by
  go_enter Try.func37, Try.ntmps37
  go_wp2
  refine bodyPost_ret (v := .agg #[.string bc, .string bt]) (by simp [results, Try.results37, go_sem]) rfl ⟨rfl, rfl⟩

theorem newFinished_any (m1 m2 : Option Nat) (w : World) : Calls Try.prog 38 #[.map m1, .map m2] w fun e w' => Boxed w 78 #[.map none, .map m1, .map m2, .slice none 0 0, .int .i64 0] e w' := by
  go_enter Try.func38, Try.ntmps38
  go_wp2
  go_ret
  exact ⟨rfl, rfl⟩

end Go.Proofs.Qxb6600940a
