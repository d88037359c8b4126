/-
  DERIVED. Maps from strings to integers that hold no zero, nil where there is none: what a node's Followers are.
-/
import Derived.Test.Qxb6603051aSets
namespace Go.Proofs.Qxb6603051a
open Go.RowKit Go.Maps

def gupd (g : ByteArray → Int) (x : ByteArray) (z : Int) : ByteArray → Int := fun y => if y = x then z else g y
theorem gupd_same (g : ByteArray → Int) (x : ByteArray) (z : Int) : gupd g x z x = z := if_pos rfl
theorem gupd_other (g : ByteArray → Int) {x y : ByteArray} (z : Int) (h : y ≠ x) : gupd g x z y = g y := if_neg h
def insB (D : List ByteArray) (x : ByteArray) : List ByteArray := if inB x D then D else D ++ [x]
def delB (D : List ByteArray) (x : ByteArray) : List ByteArray := D.filter (fun y => !decide (y = x))

theorem inB_ins (D : List ByteArray) (x y : ByteArray) : inB y (insB D x) = (inB y D || decide (y = x)) := by
  rw [Bool.eq_iff_iff, Bool.or_eq_true, inB_iff, inB_iff, decide_eq_true_iff]
  unfold insB
  by_cases h : inB x D = true
  · rw [if_pos h]
    constructor
    · exact Or.inl
    · rintro (h' | rfl)
      · exact h'
      · exact inB_iff.1 h
  · rw [if_neg h]; simp
theorem inB_del (D : List ByteArray) (x y : ByteArray) : inB y (delB D x) = (inB y D && !decide (y = x)) := by
  rw [Bool.eq_iff_iff, Bool.and_eq_true, inB_iff, inB_iff]
  unfold delB
  rw [List.mem_filter]
theorem nodup_ins {D : List ByteArray} (h : D.Nodup) (x : ByteArray) : (insB D x).Nodup := by
  unfold insB
  by_cases hx : inB x D = true
  · rw [if_pos hx]; exact h
  · rw [if_neg hx]; exact nodup_snoc h (by simpa using hx)
theorem nodup_del {D : List ByteArray} (h : D.Nodup) (x : ByteArray) : (delB D x).Nodup := h.filter _
theorem ins_len (D : List ByteArray) (x : ByteArray) : (insB D x).length = if inB x D then D.length else D.length + 1 := by
  unfold insB; split <;> simp
theorem del_len : ∀ {D : List ByteArray}, D.Nodup → ∀ x, (delB D x).length = if inB x D then D.length - 1 else D.length
  | [], _, x => rfl
  | a :: D, h, x => by
    rw [List.nodup_cons] at h
    have ih := del_len h.2 x
    unfold delB at ih ⊢
    rw [List.filter_cons]
    by_cases e : a = x
    · subst e
      have h1 : inB a D = false := inB_false.2 h.1
      have h2 : inB a (a :: D) = true := inB_iff.2 (by simp)
      rw [h1] at ih
      rw [h2]
      simp at ih ⊢
      exact ih
    · have h2 : inB x (a :: D) = inB x D := by rw [Bool.eq_iff_iff, inB_iff, inB_iff]; simp [Ne.symm e]
      rw [h2]
      simp only [e, decide_false, Bool.not_false, if_true, List.length_cons]
      rw [ih]
      cases hx : inB x D with
      | false => rfl
      | true =>
        have : 0 < D.length := List.length_pos_of_mem (inB_iff.1 hx)
        simp only [if_true]
        omega

/-- Block b is a map[string]int: its keys dom, its elements g. -/
def IntMap (w : World) (b n : Nat) (dom : List ByteArray) (g : ByteArray → Int) : Prop :=
  dom.Nodup ∧ ∃ f, MapIs Try.prog 9 w b n dom.length f ∧ ∀ x, f (.string x) = if inB x dom then some (.int .i64 (g x)) else none

section
variable {w w' : World} {b n : Nat} {dom : List ByteArray} {g : ByteArray → Int}

theorem intMap_made (w : World) (g : ByteArray → Int) : IntMap (w.alloc (.map #[] 0)) w.heap.size 0 [] g := ⟨List.nodup_nil, fun _ => none, mapIs_made w _ _ (fun _ => rfl), fun x => by simp [inB]⟩
theorem IntMap.of_block (h : IntMap w b n dom g) (e : w'.heap[b]? = w.heap[b]?) : IntMap w' b n dom g := by
  obtain ⟨h0, f, h1, h2⟩ := h; exact ⟨h0, f, h1.of_block e, h2⟩
theorem IntMap.lt (h : IntMap w b n dom g) : b < w.heap.size := by obtain ⟨_, f, h1, h2⟩ := h; exact h1.lt
theorem IntMap.congr {g' : ByteArray → Int} (h : IntMap w b n dom g) (e : ∀ x, inB x dom = true → g x = g' x) : IntMap w b n dom g' := by
  obtain ⟨h0, f, h1, h2⟩ := h
  refine ⟨h0, f, h1, fun x => ?_⟩
  rw [h2 x]
  cases hx : inB x dom with
  | false => rfl
  | true => rw [e x hx]

theorem IntMap.look (h : IntMap w b n dom g) (x : ByteArray) (hx : x.size ≤ 9223372036854775807) : (Instr.lookup 23 (.map (some b)) (.string x) false).run Try.prog w = .ok (.int .i64 (if inB x dom then g x else 0)) w := by
  obtain ⟨_, f, h1, h2⟩ := h
  obtain ⟨l, hl⟩ := keyStr x (by unfold maxLen; exact hx)
  rw [h1.look key9 Try.underlying23 (zero_of Try.info3) hl, h2 x]
  cases inB x dom <;> rfl

theorem IntMap.look_ok (h : IntMap w b n dom g) (x : ByteArray) (hx : x.size ≤ 9223372036854775807) : (Instr.lookup 23 (.map (some b)) (.string x) true).run Try.prog w = .ok (.tuple #[.int .i64 (if inB x dom then g x else 0), .bool (inB x dom)]) w := by
  obtain ⟨_, f, h1, h2⟩ := h
  obtain ⟨l, hl⟩ := keyStr x (by unfold maxLen; exact hx)
  rw [h1.look_ok key9 Try.underlying23 (zero_of Try.info3) hl, h2 x]
  cases inB x dom <;> rfl

theorem IntMap.len (h : IntMap w b n dom g) (ty : TypeId) : (Builtin.len_ #[23] ty #[.map (some b)]).run Try.prog w = .ok (.int .i64 (dom.length : Nat)) w := by
  obtain ⟨_, f, h1, h2⟩ := h
  exact h1.len Try.underlying23 ty

theorem IntMap.put (h : IntMap w b n dom g) (x : ByteArray) (z : Int) (hx : x.size ≤ 9223372036854775807) (hn : n < 1099511627776) :
    ∃ w', (Instr.mapUpdate 23 (.map (some b)) (.string x) (.int .i64 z)).run Try.prog w = .ok () w' ∧ IntMap w' b (n + 1) (insB dom x) (gupd g x z) ∧ w.mapTurned w' b := by
  classical
  obtain ⟨h0, f, h1, h2⟩ := h
  obtain ⟨l, hl⟩ := keyStr x (by unfold maxLen; exact hx)
  obtain ⟨w', hr, hm, ht⟩ := h1.put key9 Try.underlying23 (by unfold maxLen; omega) hl (v := .int .i64 z) (g := fun y => if y = .string x then some (.int .i64 z) else f y) (if_pos rfl) (fun y hy => if_neg hy)
  refine ⟨w', hr, ⟨nodup_ins h0 x, fun y => if y = .string x then some (.int .i64 z) else f y, ?_, fun y => ?_⟩, ht⟩
  · rw [h2 x] at hm
    rw [ins_len]
    cases hb : inB x dom with
    | false => rw [hb] at hm; exact hm
    | true => rw [hb] at hm; exact hm
  · rw [inB_ins]
    by_cases e : y = x
    · subst e
      simp [gupd_same]
    · have hne : (Value.string y) ≠ .string x := fun e' => e (by injection e')
      simp only [if_neg hne, e, decide_false, Bool.or_false]
      rw [h2 y, gupd_other g z e]

theorem IntMap.drop (h : IntMap w b n dom g) (x : ByteArray) (hx : x.size ≤ 9223372036854775807) (ty : TypeId) :
    ∃ w', (Builtin.delete_ #[23, 9] ty #[.map (some b), .string x]).run Try.prog w = .ok (.tuple #[]) w' ∧ IntMap w' b n (delB dom x) g ∧ w.mapTurned w' b := by
  classical
  obtain ⟨h0, f, h1, h2⟩ := h
  obtain ⟨l, hl⟩ := keyStr x (by unfold maxLen; exact hx)
  obtain ⟨w', hr, hm, ht⟩ := h1.drop key9 Try.underlying23 hl ty (g := fun y => if y = .string x then none else f y) (if_pos rfl) (fun y hy => if_neg hy)
  refine ⟨w', hr, ⟨nodup_del h0 x, fun y => if y = .string x then none else f y, ?_, fun y => ?_⟩, ht⟩
  · rw [h2 x] at hm
    rw [del_len h0]
    cases hb : inB x dom with
    | false => rw [hb] at hm; exact hm
    | true => rw [hb] at hm; exact hm
  · rw [inB_del]
    by_cases e : y = x
    · subst e; simp
    · have hne : (Value.string y) ≠ .string x := fun e' => e (by injection e')
      simp only [if_neg hne, e, decide_false, Bool.not_false, Bool.and_true]
      rw [h2 y]
end

/-- A node's followers: nil, or a map that holds exactly what is not zero. -/
def FV (w : World) (mb : Option Nat) (n : Nat) (g : ByteArray → Int) : Prop :=
  (mb = none ∧ ∀ x, g x = 0) ∨ ∃ b m dom, mb = some b ∧ m ≤ n ∧ IntMap w b m dom g ∧ dom ≠ [] ∧ ∀ x, inB x dom = true ↔ g x ≠ 0

theorem FV.of_block {w w' : World} {mb : Option Nat} {n : Nat} {g : ByteArray → Int} (h : FV w mb n g) (e : ∀ b, mb = some b → w'.heap[b]? = w.heap[b]?) : FV w' mb n g := by
  rcases h with h | ⟨b, m, dom, h1, h2, h3, h4⟩
  · exact Or.inl h
  · exact Or.inr ⟨b, m, dom, h1, h2, h3.of_block (e b h1), h4⟩
theorem FV.mono {w : World} {mb : Option Nat} {n n' : Nat} {g : ByteArray → Int} (h : FV w mb n g) (hn : n ≤ n') : FV w mb n' g := by
  rcases h with h | ⟨b, m, dom, h1, h2, h3, h4⟩
  · exact Or.inl h
  · exact Or.inr ⟨b, m, dom, h1, by omega, h3, h4⟩
theorem FV.lt {w : World} {mb : Option Nat} {n : Nat} {g : ByteArray → Int} (h : FV w mb n g) {b : Nat} (hb : mb = some b) : b < w.heap.size := by
  rcases h with ⟨h, _⟩ | ⟨b', m, dom, h1, h2, h3, h4⟩
  · rw [h] at hb; cases hb
  · rw [h1] at hb; cases hb; exact h3.lt
theorem FV.none_iff {w : World} {mb : Option Nat} {n : Nat} {g : ByteArray → Int} (h : FV w mb n g) : mb = none ↔ ∀ x, g x = 0 := by
  rcases h with ⟨h, h'⟩ | ⟨b', m, dom, h1, h2, h3, h4, h5⟩
  · exact ⟨fun _ => h', fun _ => h⟩
  · constructor
    · intro e; rw [h1] at e; cases e
    · intro hz
      exfalso
      obtain ⟨x, hx⟩ := List.exists_mem_of_ne_nil _ h4
      exact (h5 x).1 (inB_iff.2 hx) (hz x)

end Go.Proofs.Qxb6603051a
