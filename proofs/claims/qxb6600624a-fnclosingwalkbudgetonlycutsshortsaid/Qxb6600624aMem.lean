/-
  What a slice of integers, and a slice of such slices, hold in a world; said of cells. No Go text of the program here.
-/
import Derived.WalkKit
import Derived.WalkSpells
import Derived.WalkLawsBesides
import Derived.BigQuiet
namespace Go.Proofs.Qxb6600624a
open Go.RowKit

/-- The slice value v holds the integers xs. -/
def Ints (w : World) (v : Value) (xs : List Int) : Prop :=
  ∃ a cap, v = .slice a xs.length cap ∧ (a = none → xs = []) ∧ ∀ k, k < xs.length → ∃ b o, a = some ⟨b, o, none⟩ ∧ w.cell? ⟨b, o + k, none⟩ = some (.int .i64 (xs.getD k 0))

/-- The slice value v holds slices that hold the rows of T. -/
def Tab (w : World) (v : Value) (T : List (List Int)) : Prop :=
  ∃ a cap, v = .slice a T.length cap ∧ T.length ≤ 9223372036854775807 ∧ (∀ k, k < T.length → (T.getD k []).length ≤ 9223372036854775807 ∧ ∃ b o u, a = some ⟨b, o, none⟩ ∧ w.cell? ⟨b, o + k, none⟩ = some u ∧ Ints w u (T.getD k []))

theorem Ints.below {w w' : World} {v : Value} {xs : List Int} (h : Ints w v xs) (hb : Below w.heap.size w w') : Ints w' v xs := by
  obtain ⟨a, cap, rfl, hn, hc⟩ := h
  refine ⟨a, cap, rfl, hn, fun k hk => ?_⟩
  obtain ⟨b, o, rfl, hcell⟩ := hc k hk
  exact ⟨b, o, rfl, cell_later hb hcell⟩

theorem Tab.below {w w' : World} {v : Value} {T : List (List Int)} (h : Tab w v T) (hb : Below w.heap.size w w') : Tab w' v T := by
  obtain ⟨a, cap, rfl, hl, hc⟩ := h
  refine ⟨a, cap, rfl, hl, fun k hk => ?_⟩
  obtain ⟨h1, b, o, u, rfl, hcell, hu⟩ := hc k hk
  exact ⟨h1, b, o, u, rfl, cell_later hb hcell, hu.below hb⟩

theorem below_drewN (w : World) (n B : Nat) : Below B w (w.drewN n) := by
  induction n with
  | zero => exact Below.refl _ _
  | succ n ih => exact ih.drew

theorem cell_drewN (w : World) (n : Nat) (a : Addr) : (w.drewN n).cell? a = w.cell? a := by
  induction n with
  | zero => rfl
  | succ n ih => exact ih

/-- The call returned a bool of which p holds. (A name, so that the walk's simp does not look inside.) -/
def RetB (p : Bool → Prop) (e : Ending) : Prop := ∃ r : Bool, e = .returned (.bool r) ∧ p r
/-- The world has only drawn. -/
def Drew (w w' : World) : Prop := ∃ n, w' = w.drewN n

/-- How many integers T holds. -/
def words (T : List (List Int)) : Nat := (T.map List.length).sum

theorem words_take_succ (T : List (List Int)) (k : Nat) (h : k < T.length) : words (T.take (k + 1)) = words (T.take k) + (T.getD k []).length := by
  unfold words
  rw [List.take_succ_eq_append_getElem h, List.map_append, List.sum_append]
  simp only [List.map_cons, List.map_nil, List.sum_cons, List.sum_nil, List.getD, List.getElem?_eq_getElem h, Option.getD_some, Nat.add_zero]

theorem words_take_le (T : List (List Int)) (k : Nat) : words (T.take k) ≤ words T := by
  unfold words
  conv => rhs; rw [← List.take_append_drop k T, List.map_append, List.sum_append]
  exact Nat.le_add_right _ _

end Go.Proofs.Qxb6600624a
