/-
  DERIVED. The table of loads; set.
-/
import Derived.Test.Qxb6603051aHeld1
namespace Go.Proofs.Qxb6603051a
open Go.RowKit Go.Maps

def fupd (f : ByteArray → Option Nat) (x : ByteArray) (z : Option Nat) : ByteArray → Option Nat := fun y => if y = x then z else f y
theorem fupd_same (f : ByteArray → Option Nat) (x : ByteArray) (z : Option Nat) : fupd f x z x = z := if_pos rfl
theorem fupd_other (f : ByteArray → Option Nat) {x y : ByteArray} (z : Option Nat) (h : y ≠ x) : fupd f x z y = f y := if_neg h

def loadV (r l : Int) (m : Option Nat) : Value := .agg #[.int .i64 r, .int .i64 l, .map m]

/-- Block hb is the table of loads. -/
structure HT (w : World) (hb n : Nat) (dom : List ByteArray) (R L : ByteArray → Int) (fm : ByteArray → Option Nat) : Prop where
  nd : dom.Nodup
  map : ∃ f, MapIs Try.prog 9 w hb n dom.length f ∧ ∀ x, f (.string x) = if inB x dom then some (loadV (R x) (L x) (fm x)) else none
  out : ∀ x, inB x dom = false → R x = 0 ∧ L x = 0 ∧ fm x = none
  can : ∀ x, inB x dom = true → ¬ (R x = 0 ∧ L x = 0 ∧ fm x = none)

section
variable {w w' : World} {hb n : Nat} {dom : List ByteArray} {R L : ByteArray → Int} {fm : ByteArray → Option Nat}

theorem HT.of_block (h : HT w hb n dom R L fm) (e : w'.heap[hb]? = w.heap[hb]?) : HT w' hb n dom R L fm := by
  obtain ⟨f, h1, h2⟩ := h.map; exact ⟨h.nd, ⟨f, h1.of_block e, h2⟩, h.out, h.can⟩
theorem HT.lt (h : HT w hb n dom R L fm) : hb < w.heap.size := by obtain ⟨f, h1, h2⟩ := h.map; exact h1.lt

theorem HT.look (h : HT w hb n dom R L fm) (x : ByteArray) (hx : x.size ≤ 9223372036854775807) : (Instr.lookup 58 (.map (some hb)) (.string x) false).run Try.prog w = .ok (loadV (R x) (L x) (fm x)) w := by
  obtain ⟨f, h1, h2⟩ := h.map
  obtain ⟨l, hl⟩ := keyStr x (by unfold maxLen; exact hx)
  rw [h1.look key9 Try.underlying58 (zero_of Try.info80) hl, h2 x]
  cases hb : inB x dom with
  | true => rfl
  | false =>
    obtain ⟨a, b, c⟩ := h.out x hb
    rw [a, b, c]; rfl

theorem HT.look_ok (h : HT w hb n dom R L fm) (x : ByteArray) (hx : x.size ≤ 9223372036854775807) : (Instr.lookup 58 (.map (some hb)) (.string x) true).run Try.prog w = .ok (.tuple #[loadV (R x) (L x) (fm x), .bool (inB x dom)]) w := by
  obtain ⟨f, h1, h2⟩ := h.map
  obtain ⟨l, hl⟩ := keyStr x (by unfold maxLen; exact hx)
  rw [h1.look_ok key9 Try.underlying58 (zero_of Try.info80) hl, h2 x]
  cases hb : inB x dom with
  | true => rfl
  | false =>
    obtain ⟨a, b, c⟩ := h.out x hb
    rw [a, b, c]; rfl

theorem HT.len (h : HT w hb n dom R L fm) (ty : TypeId) : (Builtin.len_ #[58] ty #[.map (some hb)]).run Try.prog w = .ok (.int .i64 (dom.length : Nat)) w := by
  obtain ⟨f, h1, h2⟩ := h.map
  exact h1.len Try.underlying58 ty

theorem HT.put (h : HT w hb n dom R L fm) (x : ByteArray) (r l : Int) (m : Option Nat) (hx : x.size ≤ 9223372036854775807) (hn : n < 1099511627776) (hc : ¬ (r = 0 ∧ l = 0 ∧ m = none)) :
    ∃ w', (Instr.mapUpdate 58 (.map (some hb)) (.string x) (loadV r l m)).run Try.prog w = .ok () w' ∧ HT w' hb (n + 1) (insB dom x) (gupd R x r) (gupd L x l) (fupd fm x m) ∧ w.mapTurned w' hb := by
  classical
  obtain ⟨f, h1, h2⟩ := h.map
  obtain ⟨k, hl⟩ := keyStr x (by unfold maxLen; exact hx)
  obtain ⟨w', hr, hm, ht⟩ := h1.put key9 Try.underlying58 (by unfold maxLen; omega) hl (v := loadV r l m) (g := fun y => if y = .string x then some (loadV r l m) else f y) (if_pos rfl) (fun y hy => if_neg hy)
  refine ⟨w', hr, ⟨nodup_ins h.nd x, ⟨fun y => if y = .string x then some (loadV r l m) else f y, ?_, fun y => ?_⟩, fun y hy => ?_, fun y hy => ?_⟩, ht⟩
  · rw [h2 x] at hm
    rw [ins_len]
    cases hb : inB x dom with
    | false => rw [hb] at hm; exact hm
    | true => rw [hb] at hm; exact hm
  · rw [inB_ins]
    by_cases e : y = x
    · subst e
      simp [gupd_same, fupd_same]
    · have hne : (Value.string y) ≠ .string x := fun e' => e (by injection e')
      simp only [if_neg hne, e, decide_false, Bool.or_false]
      rw [h2 y, gupd_other R r e, gupd_other L l e, fupd_other fm m e]
  · rw [inB_ins] at hy
    have e : y ≠ x := fun e => by rw [e] at hy; simp at hy
    rw [gupd_other R r e, gupd_other L l e, fupd_other fm m e]
    exact h.out y (by simpa [e] using hy)
  · rw [inB_ins] at hy
    by_cases e : y = x
    · subst e; rw [gupd_same, gupd_same, fupd_same]; exact hc
    · rw [gupd_other R r e, gupd_other L l e, fupd_other fm m e]
      exact h.can y (by simpa [e] using hy)

theorem HT.drop (h : HT w hb n dom R L fm) (x : ByteArray) (hx : x.size ≤ 9223372036854775807) (ty : TypeId) :
    ∃ w', (Builtin.delete_ #[58, 9] ty #[.map (some hb), .string x]).run Try.prog w = .ok (.tuple #[]) w' ∧ HT w' hb n (delB dom x) (gupd R x 0) (gupd L x 0) (fupd fm x none) ∧ w.mapTurned w' hb := by
  classical
  obtain ⟨f, h1, h2⟩ := h.map
  obtain ⟨k, hl⟩ := keyStr x (by unfold maxLen; exact hx)
  obtain ⟨w', hr, hm, ht⟩ := h1.drop key9 Try.underlying58 hl ty (g := fun y => if y = .string x then none else f y) (if_pos rfl) (fun y hy => if_neg hy)
  refine ⟨w', hr, ⟨nodup_del h.nd x, ⟨fun y => if y = .string x then none else f y, ?_, fun y => ?_⟩, fun y hy => ?_, fun y hy => ?_⟩, ht⟩
  · rw [h2 x] at hm
    rw [del_len h.nd]
    cases hb : inB x dom with
    | false => rw [hb] at hm; exact hm
    | true => rw [hb] at hm; exact hm
  · rw [inB_del]
    by_cases e : y = x
    · subst e; simp
    · have hne : (Value.string y) ≠ .string x := fun e' => e (by injection e')
      simp only [if_neg hne, e, decide_false, Bool.not_false, Bool.and_true]
      rw [h2 y, gupd_other R 0 e, gupd_other L 0 e, fupd_other fm none e]
  · rw [inB_del] at hy
    by_cases e : y = x
    · subst e; exact ⟨gupd_same _ _ _, gupd_same _ _ _, fupd_same _ _ _⟩
    · rw [gupd_other R 0 e, gupd_other L 0 e, fupd_other fm none e]
      exact h.out y (by simpa [e] using hy)
  · rw [inB_del] at hy
    have e : y ≠ x := fun e => by rw [e] at hy; simp at hy
    rw [gupd_other R 0 e, gupd_other L 0 e, fupd_other fm none e]
    exact h.can y (by simpa [e] using hy)

theorem HT.mono {n' : Nat} (h : HT w hb n dom R L fm) : n = n' → HT w hb n' dom R L fm := fun e => e ▸ h
end

/-- What set leaves. -/
def SetTo (w : World) (hb n : Nat) (R L : ByteArray → Int) (fm : ByteArray → Option Nat) (w' : World) : Prop :=
  ∃ n' dom, n' ≤ n ∧ HT w' hb n' dom R L fm ∧ w.grownBy w' (some hb)

set_option maxRecDepth 100000 in
set_option maxHeartbeats 1000000 in
theorem set_any (hb n : Nat) (dom : List ByteArray) (R L : ByteArray → Int) (fm : ByteArray → Option Nat) (x : ByteArray) (r l : Int) (m : Option Nat) (w : World) (hT : HT w hb n dom R L fm) (hx : x.size ≤ 9223372036854775807) (hn : n < 1073741824) :
    Calls Try.prog 50 #[.map (some hb), .string x, loadV r l m] w fun e w' => e = .returned (.tuple #[]) ∧ SetTo w hb (n + 1) (gupd R x r) (gupd L x l) (fupd fm x m) w' := by
  have hlt := hT.lt
  have HT1 : Hid (HT (w.alloc (.cells #[.int .i64 r, .int .i64 l, .map m] 80)) hb n dom R L fm) := hT.of_block (Go.Deep.blk_alloc_lt w _ hb hlt)
  have HGA : Hid (w.grownBy (w.alloc (.cells #[.int .i64 r, .int .i64 l, .map m] 80)) (some hb)) := ⟨rfl, rfl, rfl, by show _ ≤ (w.heap.push _).size; rw [Array.size_push]; omega, fun b hb _ => Go.Deep.blk_alloc_lt w _ b hb⟩
  clear hT
  by_cases hz : r = 0 ∧ l = 0 ∧ m = none
  · obtain ⟨rfl, rfl, rfl⟩ := hz
    obtain ⟨w3, hdrop, hI3, ht3⟩ : ∃ w3, (∀ ty, (Builtin.delete_ #[58, 9] ty #[.map (some hb), .string x]).run Try.prog (w.alloc (.cells #[.int .i64 0, .int .i64 0, .map none] 80)) = .ok (.tuple #[]) w3) ∧ HT w3 hb n (delB dom x) (gupd R x 0) (gupd L x 0) (fupd fm x none) ∧ (w.alloc (.cells #[.int .i64 0, .int .i64 0, .map none] 80)).mapTurned w3 hb := by
      obtain ⟨w3, h1, h2, h3⟩ := HT1.out.drop x hx 0
      exact ⟨w3, fun ty => h1, h2, h3⟩
    have HE : Hid (SetTo w hb (n + 1) (gupd R x 0) (gupd L x 0) (fupd fm x none) w3) := ⟨n, _, by omega, hI3, grown_turned HGA.out ht3 (Or.inl rfl)⟩
    have q1 : ∀ w : World, (binOp .eql 23 (.map none) (.map none)).run Try.prog w = .ok (.bool true) w := fun w => run_eql_map_nil w 23 _ _ none Try.underlying23
    clear hI3 ht3 HT1 HGA
    unfold loadV
    go_enter Try.func50, Try.ntmps50
    go_wp2
    exact bodyPost_ret (v := .tuple #[]) (by simp [results, Try.results50, go_sem]) rfl ⟨rfl, HE.out⟩
  · obtain ⟨w3, hput, hI3, ht3⟩ := HT1.out.put x r l m hx (by omega) hz
    have HE : Hid (SetTo w hb (n + 1) (gupd R x r) (gupd L x l) (fupd fm x m) w3) := ⟨n + 1, _, by omega, hI3, grown_turned HGA.out ht3 (Or.inl rfl)⟩
    have q1 : ∀ w : World, (binOp .eql 23 (.map m) (.map none)).run Try.prog w = .ok (.bool m.isNone) w := fun w => run_eql_map_nil w 23 _ _ m Try.underlying23
    unfold loadV at hput
    clear hI3 ht3 HT1 HGA
    unfold loadV
    by_cases h1 : r = 0
    · subst h1
      by_cases h2 : l = 0
      · subst h2
        have h3 : m.isNone = false := by
          cases m with
          | none => exact absurd ⟨rfl, rfl, rfl⟩ hz
          | some _ => rfl
        clear hz
        go_enter Try.func50, Try.ntmps50
        go_wp2
        exact bodyPost_end (v := .tuple #[]) (by simp [results, Try.results50, go_sem]) rfl ⟨rfl, HE.out⟩
      · have h2' : (l == 0) = false := by rw [beq_eq_false_iff_ne]; exact h2
        clear hz h2
        go_enter Try.func50, Try.ntmps50
        go_wp2
        exact bodyPost_end (v := .tuple #[]) (by simp [results, Try.results50, go_sem]) rfl ⟨rfl, HE.out⟩
    · have h1' : (r == 0) = false := by rw [beq_eq_false_iff_ne]; exact h1
      clear hz h1
      go_enter Try.func50, Try.ntmps50
      go_wp2
      exact bodyPost_end (v := .tuple #[]) (by simp [results, Try.results50, go_sem]) rfl ⟨rfl, HE.out⟩

end Go.Proofs.Qxb6603051a
