/-
  What slices of integers, of strings, and slices of slices of strings hold in a world; said of cells. No Go text of the program here.
-/
import Derived.Test.Qxb6600940aMaps
import Derived.BigQuiet
import Derived.Deep.OwnRows
namespace Go.Proofs.Qxb6600940a
open Go.RowKit

/-- The slice value v holds the integers xs. -/
def Ints (w : World) (v : Value) (xs : List Int) : Prop :=
  ∃ a cap, v = .slice a xs.length cap ∧ (a = none → xs = []) ∧ xs.length ≤ 9223372036854775807 ∧ ∀ k, k < xs.length → ∃ b o, a = some ⟨b, o, none⟩ ∧ w.cell? ⟨b, o + k, none⟩ = some (.int .i64 (xs.getD k 0))

/-- The slice value v holds the strings xs. -/
def Strs (w : World) (v : Value) (xs : List ByteArray) : Prop :=
  ∃ a cap, v = .slice a xs.length cap ∧ (a = none → xs = []) ∧ xs.length ≤ 9223372036854775807 ∧ ∀ k, k < xs.length → (xs.getD k ByteArray.empty).size ≤ 9223372036854775807 ∧ ∃ b o, a = some ⟨b, o, none⟩ ∧ w.cell? ⟨b, o + k, none⟩ = some (.string (xs.getD k ByteArray.empty))

/-- The slice value v holds slices that hold the rows of T. -/
def STab (w : World) (v : Value) (T : List (List ByteArray)) : Prop :=
  ∃ a cap, v = .slice a T.length cap ∧ T.length ≤ 9223372036854775807 ∧ (∀ k, k < T.length → ∃ b o u, a = some ⟨b, o, none⟩ ∧ w.cell? ⟨b, o + k, none⟩ = some u ∧ Strs w u (T.getD k []))

theorem Ints.below {w w' : World} {v : Value} {xs : List Int} (h : Ints w v xs) (hb : Below w.heap.size w w') : Ints w' v xs := by
  obtain ⟨a, cap, rfl, hn, hl, hc⟩ := h
  refine ⟨a, cap, rfl, hn, hl, fun k hk => ?_⟩
  obtain ⟨b, o, rfl, hcell⟩ := hc k hk
  exact ⟨b, o, rfl, cell_later hb hcell⟩

theorem Strs.below {w w' : World} {v : Value} {xs : List ByteArray} (h : Strs w v xs) (hb : Below w.heap.size w w') : Strs w' v xs := by
  obtain ⟨a, cap, rfl, hn, hl, hc⟩ := h
  refine ⟨a, cap, rfl, hn, hl, fun k hk => ?_⟩
  obtain ⟨hs, b, o, rfl, hcell⟩ := hc k hk
  exact ⟨hs, b, o, rfl, cell_later hb hcell⟩

theorem STab.below {w w' : World} {v : Value} {T : List (List ByteArray)} (h : STab w v T) (hb : Below w.heap.size w w') : STab w' v T := by
  obtain ⟨a, cap, rfl, hl, hc⟩ := h
  refine ⟨a, cap, rfl, hl, fun k hk => ?_⟩
  obtain ⟨b, o, u, rfl, hcell, hu⟩ := hc k hk
  exact ⟨b, o, u, rfl, cell_later hb hcell, hu.below hb⟩

theorem Ints.slice {w : World} {v : Value} {xs : List Int} (h : Ints w v xs) : ∃ a cap, v = .slice a xs.length cap := by obtain ⟨a, cap, h, _⟩ := h; exact ⟨a, cap, h⟩
theorem Strs.slice {w : World} {v : Value} {xs : List ByteArray} (h : Strs w v xs) : ∃ a cap, v = .slice a xs.length cap := by obtain ⟨a, cap, h, _⟩ := h; exact ⟨a, cap, h⟩
theorem STab.slice {w : World} {v : Value} {T : List (List ByteArray)} (h : STab w v T) : ∃ a cap, v = .slice a T.length cap := by obtain ⟨a, cap, h, _⟩ := h; exact ⟨a, cap, h⟩

/-- The call returned a bool of which p holds. (A name, so that the walk's simp does not look inside.) -/
def RetB (p : Bool → Prop) (e : Ending) : Prop := ∃ r : Bool, e = .returned (.bool r) ∧ p r
/-- The call returned an int of which p holds. -/
def RetI (p : Int → Prop) (e : Ending) : Prop := ∃ r : Int, e = .returned (.int .i64 r) ∧ p r
/-- The world has only drawn. -/
def Drew (w w' : World) : Prop := ∃ n, w' = w.drewN n

theorem below_drewN' (w : World) (n B : Nat) : Below B w (w.drewN n) := by
  induction n with
  | zero => exact Below.refl _ _
  | succ n ih => exact ih.drew

theorem Drew.below {w w' : World} (h : Drew w w') (B : Nat) : Below B w w' := by
  obtain ⟨n, rfl⟩ := h
  exact below_drewN' w n B

theorem Drew.refl (w : World) : Drew w w := ⟨0, rfl⟩
theorem Drew.trans {a b c : World} (h : Drew a b) (k : Drew b c) : Drew a c := by
  obtain ⟨n, rfl⟩ := h
  obtain ⟨m, rfl⟩ := k
  exact ⟨n + m, World.drewN_drewN _ _ _⟩

end Go.Proofs.Qxb6600940a
