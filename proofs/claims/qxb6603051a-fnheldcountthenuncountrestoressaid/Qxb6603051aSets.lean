/-
  DERIVED. Sets of strings as the program keeps them: map[string]bool.
-/
import Derived.Test.Qxb6603051aWalkA3
import Derived.DeepKeys4
import Derived.Maps.Keyed
namespace Go.Proofs.Qxb6603051a
open Go.RowKit Go.Maps

theorem Try.info3 : (Try.prog.info? 3).map (fun i => (i.zero, i.size, i.bytes)) = some (some (.int .i64 0), 1, 8) := by kernel_rfl
theorem Try.info9 : (Try.prog.info? 9).map (fun i => (i.zero, i.size, i.bytes)) = some (some (.string ⟨#[]⟩), 1, 16) := by kernel_rfl
theorem Try.info4 : (Try.prog.info? 4).map (fun i => (i.zero, i.size, i.bytes)) = some (some (.bool false), 1, 1) := by kernel_rfl
theorem Try.info22 : (Try.prog.info? 22).map (fun i => (i.zero, i.size, i.bytes)) = some (some (.slice none 0 0), 1, 24) := by kernel_rfl
theorem Try.info24 : (Try.prog.info? 24).map (fun i => (i.zero, i.size, i.bytes)) = some (some (.slice none 0 0), 1, 24) := by kernel_rfl
theorem Try.info80 : (Try.prog.info? 80).map (fun i => (i.zero, i.size, i.bytes)) = some (some (.agg #[.int .i64 0, .int .i64 0, .map none]), 3, 24) := by kernel_rfl
theorem Try.info35 : (Try.prog.info? 35).map (fun i => (i.zero, i.size, i.bytes)) = some (some (.agg #[.string ⟨#[]⟩, .slice none 0 0]), 2, 40) := by kernel_rfl

theorem zero_of {t : TypeId} {z : Value} {s b : Nat} (h : (Try.prog.info? t).map (fun i => (i.zero, i.size, i.bytes)) = some (some z, s, b)) : ∀ w, (zeroValue t).run Try.prog w = .ok z w := fun w => by
  obtain ⟨i, hi, hz, _, _⟩ := info_parts h
  simp [zeroValue, typeInfo, hi, hz]

theorem key9 : Keyed Try.prog 9 := string_keyed Try.underlying9
theorem keyStr (s : ByteArray) (h : s.size ≤ maxLen) : ∃ l, keyOf Try.prog 9 (.string s) = some l := by
  simp [keyOf, Try.underlying9, mapKey, h]

theorem run_make_hint {t k e : TypeId} (ht : Try.prog.underlying t = some (.map k e)) (n : Int) (w : World) : (Instr.makeMap t (some (.int .i64 n))).run Try.prog w = .ok (.map (some w.heap.size)) (w.alloc (.map #[] 0)) := by
  simp [Instr.makeMap, run_underlying ht, asInt, asIntOf, Result.andThen]

def inB (x : ByteArray) (S : List ByteArray) : Bool := S.any (fun y => decide (y = x))
theorem inB_iff {x : ByteArray} {S : List ByteArray} : inB x S = true ↔ x ∈ S := by
  unfold inB
  rw [List.any_eq_true]
  constructor
  · rintro ⟨y, hy, e⟩; rw [← of_decide_eq_true e]; exact hy
  · intro h; exact ⟨x, h, decide_eq_true rfl⟩
theorem inB_false {x : ByteArray} {S : List ByteArray} : inB x S = false ↔ x ∉ S := by
  rw [← inB_iff]; simp

/-- Block b is the set D. -/
def SetMap (w : World) (b : Nat) (D : List ByteArray) : Prop :=
  ∃ c f, MapIs Try.prog 9 w b D.length c f ∧ ∀ x, f (.string x) = if inB x D then some (.bool true) else none

theorem setMap_made (w : World) : SetMap (w.alloc (.map #[] 0)) w.heap.size [] := ⟨0, fun _ => none, mapIs_made w _ _ (fun _ => rfl), fun x => by simp [inB]⟩
theorem SetMap.of_block {w w' : World} {b : Nat} {D : List ByteArray} (h : SetMap w b D) (e : w'.heap[b]? = w.heap[b]?) : SetMap w' b D := by
  obtain ⟨c, f, h1, h2⟩ := h; exact ⟨c, f, h1.of_block e, h2⟩
theorem SetMap.lt {w : World} {b : Nat} {D : List ByteArray} (h : SetMap w b D) : b < w.heap.size := by obtain ⟨c, f, h1, h2⟩ := h; exact h1.lt

theorem SetMap.look {w : World} {b : Nat} {D : List ByteArray} (h : SetMap w b D) (x : ByteArray) (hx : x.size ≤ 9223372036854775807) : (Instr.lookup 70 (.map (some b)) (.string x) false).run Try.prog w = .ok (.bool (inB x D)) w := by
  obtain ⟨c, f, h1, h2⟩ := h
  obtain ⟨l, hl⟩ := keyStr x (by unfold maxLen; exact hx)
  rw [h1.look key9 Try.underlying70 (zero_of Try.info4) hl, h2 x]
  cases inB x D <;> rfl

theorem turned_lt {w w' : World} {b : Nat} (h : w.mapTurned w' b) : b < w.heap.size := by
  obtain ⟨es, clock, _, _, hb, _⟩ := h
  rcases Nat.lt_or_ge b w.heap.size with hlt | hge
  · exact hlt
  · rw [Array.getElem?_eq_none hge] at hb; cases hb
theorem turned_below {w w' : World} {B b : Nat} (h : w.mapTurned w' b) (hb : B ≤ b) : Below B w w' :=
  ⟨h.grown.os, h.grown.tape, h.grown.output, h.grown.size, fun c hc => h.grown.block c (by have := turned_lt h; omega) (by simp; omega)⟩

theorem SetMap.put {w : World} {b : Nat} {D : List ByteArray} (h : SetMap w b D) (x : ByteArray) (hx : x.size ≤ 9223372036854775807) (hD : D.length ≤ 1048576) :
    ∃ w', (Instr.mapUpdate 70 (.map (some b)) (.string x) (.bool true)).run Try.prog w = .ok () w' ∧ SetMap w' b (D ++ [x]) ∧ w.mapTurned w' b := by
  classical
  obtain ⟨c, f, h1, h2⟩ := h
  obtain ⟨l, hl⟩ := keyStr x (by unfold maxLen; exact hx)
  obtain ⟨w', hr, hm, ht⟩ := h1.put key9 Try.underlying70 (by unfold maxLen; omega) hl (v := .bool true) (g := fun y => if y = .string x then some (.bool true) else f y) (if_pos rfl) (fun y hy => if_neg hy)
  refine ⟨w', hr, ⟨_, _, by rw [List.length_append]; exact hm, fun y => ?_⟩, ht⟩
  by_cases e : y = x
  · subst e
    have : inB y (D ++ [y]) = true := inB_iff.2 (by simp)
    rw [if_pos rfl, this]; rfl
  · have hne : (Value.string y) ≠ .string x := fun e' => e (by injection e')
    have : inB y (D ++ [x]) = inB y D := by rw [Bool.eq_iff_iff, inB_iff, inB_iff]; simp [e]
    simp only [if_neg hne]
    rw [h2 y, this]

theorem take_snoc {α : Type} (S : List α) (d : α) (k : Nat) (h : k < S.length) : S.take (k + 1) = S.take k ++ [S.getD k d] := by
  have e : S.getD k d = S[k] := by rw [List.getD_eq_getElem?_getD, List.getElem?_eq_getElem h]; rfl
  rw [List.take_succ_eq_append_getElem h, e]
theorem nodup_snoc {S : List ByteArray} {x : ByteArray} (h : S.Nodup) (hx : inB x S = false) : (S ++ [x]).Nodup := by
  rw [List.nodup_append]
  refine ⟨h, List.nodup_cons.2 ⟨by simp, List.nodup_nil⟩, fun a ha b hb e => inB_false.1 hx ?_⟩
  rw [List.mem_singleton] at hb
  rw [← hb, ← e]; exact ha

/-- What HeldFits asks. -/
def Row1 (R L : List Int) (K : List (List ByteArray)) (N : List (List Int)) (i : Nat) : Prop :=
  (N.getD i []).length = (K.getD i []).length ∧ ¬ (R.getD i 0 = 0 ∧ L.getD i 0 = 0 ∧ (K.getD i []).length = 0) ∧ (K.getD i []).Nodup ∧ ∀ j, j < (K.getD i []).length → (N.getD i []).getD j 0 ≠ 0
def Fits (A : List ByteArray) (R L : List Int) (K : List (List ByteArray)) (N : List (List Int)) (E : List ByteArray) (P : List (List ByteArray)) : Prop :=
  R.length = A.length ∧ L.length = A.length ∧ K.length = A.length ∧ N.length = A.length ∧ E.length = P.length ∧ A.Nodup ∧ ∀ i, i < A.length → Row1 R L K N i

end Go.Proofs.Qxb6603051a
