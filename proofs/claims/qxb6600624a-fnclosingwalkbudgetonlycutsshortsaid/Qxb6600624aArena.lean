import Derived.Test.Qxb6600624aWalkC
import Derived.Deep.OwnRows
import Derived.Defers
namespace Go.Proofs.Qxb6600624a
open Go.RowKit

/-- The search and its graph as they lie in memory: only read. pb: the parents' block; bud: the budget's. -/
structure Arena (w : World) (sb gb ob pb : Nat) (bud : Option Nat) (T K : List (List Int)) : Prop where
  s0 : w.cell? ⟨sb, 0, none⟩ = some (.pointer (some ⟨gb, 0, none⟩))
  s3 : w.cell? ⟨sb, 3, none⟩ = some (.pointer (bud.map fun b => ⟨b, 0, none⟩))
  s4 : w.cell? ⟨sb, 4, none⟩ = some (.slice (some ⟨pb, 0, none⟩) (4 * T.length) (4 * T.length))
  g1 : w.cell? ⟨gb, 1, none⟩ = some (.slice (some ⟨ob, 0, none⟩) T.length T.length)
  sne : sb ≠ pb ∧ some sb ≠ bud
  gne : gb ≠ pb ∧ some gb ≠ bud
  one : ob ≠ pb ∧ some ob ≠ bud
  rows : ∀ i, i < T.length → ∃ rb, (rb ≠ pb ∧ some rb ≠ bud) ∧ w.cell? ⟨ob, i, none⟩ = some (.slice (some ⟨rb, 0, none⟩) (Plain.deg T i) (Plain.deg T i)) ∧
    ∀ j, j < Plain.deg T i → w.cell? ⟨rb, j * 3, none⟩ = some (.int .i64 (Plain.tgtOf T i j)) ∧ w.cell? ⟨rb, j * 3 + 1, none⟩ = some (.string (kindStr (Plain.kindOf K i j))) ∧ w.cell? ⟨rb, j * 3 + 2, none⟩ = some (.int .i64 0)

theorem Arena.keep {w w' : World} {sb gb ob pb : Nat} {bud : Option Nat} {T K : List (List Int)} (h : Arena w sb gb ob pb bud T K)
    (hk : ∀ k, k < w.heap.size → k ≠ pb → some k ≠ bud → w'.heap[k]? = w.heap[k]?) : Arena w' sb gb ob pb bud T K := by
  have hc : ∀ b o v, w.cell? ⟨b, o, none⟩ = some v → (b ≠ pb ∧ some b ≠ bud) → w'.cell? ⟨b, o, none⟩ = some v := fun b o v hv hn =>
    (World.cell?_of_block (w := w) (a := ⟨b, o, none⟩) (hk b (World.block_lt_of_cell? _ _ hv) hn.1 hn.2)).trans hv
  refine ⟨hc _ _ _ h.s0 h.sne, hc _ _ _ h.s3 h.sne, hc _ _ _ h.s4 h.sne, hc _ _ _ h.g1 h.gne, h.sne, h.gne, h.one, fun i hi => ?_⟩
  obtain ⟨rb, hn, h1, h2⟩ := h.rows i hi
  exact ⟨rb, hn, hc _ _ _ h1 h.one, fun j hj => ⟨hc _ _ _ (h2 j hj).1 hn, hc _ _ _ (h2 j hj).2.1 hn, hc _ _ _ (h2 j hj).2.2 hn⟩⟩

/-- The budget's block, if there is one. -/
def BudAt (w : World) (bud : Option Nat) (left : Int) : Prop := ∀ b, bud = some b → w.rowIs b 57 1 (fun _ => .int .i64 left)

end Go.Proofs.Qxb6600624a
