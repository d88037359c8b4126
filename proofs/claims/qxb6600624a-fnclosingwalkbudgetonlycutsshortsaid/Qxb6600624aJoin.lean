import Derived.Test.Qxb6600624aBuild
import Derived.Test.Qxb6600624aClosing
namespace Go.Proofs.Qxb6600624a
open Go.RowKit

/-- What ZZClosingWalk answers. -/
def ZZAns (w w' : World) (lim : Bool) (T K : List (List Int)) (u v : Nat) (left : Int) (e : Ending) : Prop :=
  Below w.heap.size w w' ∧ ∃ bud : Option Nat, (bud ≠ none → lim = true) ∧ Answer w' bud T K u (4 * u + 1) (4 * v + 2) left e

theorem found_below {w W w' : World} {pb : Nat} {bud : Option Nat} (h : Found W w' pb bud) (hb : Below w.heap.size w W) (hp : w.heap.size ≤ pb) (hbud : ∀ b, bud = some b → w.heap.size ≤ b) : Below w.heap.size w w' :=
  hb.trans ⟨h.os, h.tape, h.output, h.size, fun k hk => h.keep k (by have := hb.size; omega) (by omega) (fun e => by have := hbud k e.symm; omega)⟩

section
variable {w w0 wr : World} {T K : List (List Int)} {m : Nat}

theorem call_free (hO : BOuter w w0 T K T.length) (hP : Pars w0 wr m m) (hm : m = 4 * T.length) (u v : Nat) (left : Int) (hu : u < T.length) (hv : v < T.length) (hn : T.length ≤ 65536) (hT : Plain.InR T T.length) (hrow : ∀ i, i < T.length → Plain.deg T i ≤ 131072) (hl : left ≤ 9223372036854775807) :
    Calls Try.prog 24 #[.pointer (some ⟨w0.heap.size + 1 + 1, 0, none⟩), .int .i64 u, .int .i64 v]
      ((wr.alloc (.cells #[.slice none 0 0, .slice (some ⟨w.heap.size, 0, none⟩) T.length T.length, .bool false] 50)).alloc (.cells #[.pointer (some ⟨w0.heap.size + 1, 0, none⟩), .slice none 0 0, .slice none 0 0, .pointer none, .slice (some ⟨w0.heap.size, 0, none⟩) m m, .slice none 0 0, .map none] 55))
      fun e w' => ZZAns w w' false T K u v left e := by
  generalize hG : Obj.cells #[.slice none 0 0, .slice (some ⟨w.heap.size, 0, none⟩) T.length T.length, .bool false] 50 = G
  generalize hS : Obj.cells #[.pointer (some ⟨w0.heap.size + 1, 0, none⟩), .slice none 0 0, .slice none 0 0, .pointer none, .slice (some ⟨w0.heap.size, 0, none⟩) m m, .slice none 0 0, .map none] 55 = S
  have hsz := hP.size
  have hosz := hO.size
  have hs1 : (wr.alloc G).heap.size = w0.heap.size + 1 + 1 := by simp [hsz]
  have hg : ((wr.alloc G).alloc S).heap[w0.heap.size + 1]? = some G := by
    rw [Below.heap_alloc _ _ _ (by rw [hs1]; omega), ← hsz]; exact heap_alloc_new _ _
  have hs : ((wr.alloc G).alloc S).heap[w0.heap.size + 1 + 1]? = some S := by
    rw [← hs1]; exact heap_alloc_new _ _
  have hold : ∀ k, k < wr.heap.size → ((wr.alloc G).alloc S).heap[k]? = wr.heap[k]? := fun k hk => by
    rw [Below.heap_alloc _ _ _ (by rw [hs1]; omega), Below.heap_alloc _ _ _ hk]
  have hbl : ∀ k, k < w0.heap.size → ((wr.alloc G).alloc S).heap[k]? = w0.heap[k]? := fun k hk => (hold k (by omega)).trans (hP.below.block k hk)
  have hA : Arena ((wr.alloc G).alloc S) (w0.heap.size + 1 + 1) (w0.heap.size + 1) w.heap.size w0.heap.size none T K := by
    refine arena_mk hO hbl (Nat.le_refl _) (fun b e => by cases e) ?_ ?_ ?_ ?_ ⟨by omega, by simp⟩ ⟨by omega, by simp⟩
    · simp only [World.cell?, hs]; rw [← hS]; rfl
    · simp only [World.cell?, hs]; rw [← hS]; rfl
    · rw [← hm]; simp only [World.cell?, hs]; rw [← hS]; rfl
    · simp only [World.cell?, hg]; rw [← hG]; rfl
  have hp : ((wr.alloc G).alloc S).rowIs w0.heap.size 3 (4 * T.length) (fun _ => .int .i64 (-2)) := by
    rw [← hm]
    exact (hP.row.of_block (hold _ (by omega))).congr fun i hi => by rw [if_pos hi]
  have hbb : Below w.heap.size w ((wr.alloc G).alloc S) := by
    refine hO.below.trans ((hP.below.mono (by omega)).trans ⟨rfl, rfl, rfl, by simp; omega, fun k hk => hold k (by omega)⟩)
  refine (closing_any _ _ _ _ none T K u v left _ hA hp (fun b e => by cases e) (fun b e => by cases e) hu hv hn hT hrow hl).mono ?_
  rintro e w' ⟨hF, hAn⟩
  exact ⟨found_below hF hbb (by omega) (fun b e => by cases e), none, fun h => absurd rfl h, hAn⟩

theorem call_cut (hO : BOuter w w0 T K T.length) (hP : Pars w0 wr m m) (hm : m = 4 * T.length) (u v : Nat) (left : Int) (hu : u < T.length) (hv : v < T.length) (hn : T.length ≤ 65536) (hT : Plain.InR T T.length) (hrow : ∀ i, i < T.length → Plain.deg T i ≤ 131072) (hl : left ≤ 9223372036854775807) :
    Calls Try.prog 24 #[.pointer (some ⟨w0.heap.size + 1 + 1, 0, none⟩), .int .i64 u, .int .i64 v]
      (((wr.alloc (.cells #[.slice none 0 0, .slice (some ⟨w.heap.size, 0, none⟩) T.length T.length, .bool false] 50)).alloc (.cells #[.pointer (some ⟨w0.heap.size + 1, 0, none⟩), .slice none 0 0, .slice none 0 0, .pointer (some ⟨w0.heap.size + 1 + 1 + 1, 0, none⟩), .slice (some ⟨w0.heap.size, 0, none⟩) m m, .slice none 0 0, .map none] 55)).alloc (.cells #[.int .i64 left] 57))
      fun e w' => ZZAns w w' true T K u v left e := by
  generalize hG : Obj.cells #[.slice none 0 0, .slice (some ⟨w.heap.size, 0, none⟩) T.length T.length, .bool false] 50 = G
  generalize hS : Obj.cells #[.pointer (some ⟨w0.heap.size + 1, 0, none⟩), .slice none 0 0, .slice none 0 0, .pointer (some ⟨w0.heap.size + 1 + 1 + 1, 0, none⟩), .slice (some ⟨w0.heap.size, 0, none⟩) m m, .slice none 0 0, .map none] 55 = S
  generalize hD : Obj.cells #[.int .i64 left] 57 = D
  have hsz := hP.size
  have hosz := hO.size
  have hs1 : (wr.alloc G).heap.size = w0.heap.size + 1 + 1 := by simp [hsz]
  have hs2 : ((wr.alloc G).alloc S).heap.size = w0.heap.size + 1 + 1 + 1 := by simp [hsz]
  have hd : (((wr.alloc G).alloc S).alloc D).heap[w0.heap.size + 1 + 1 + 1]? = some D := by
    rw [← hs2]; exact heap_alloc_new _ _
  have hg : (((wr.alloc G).alloc S).alloc D).heap[w0.heap.size + 1]? = some G := by
    rw [Below.heap_alloc _ _ _ (by rw [hs2]; omega), Below.heap_alloc _ _ _ (by rw [hs1]; omega), ← hsz]; exact heap_alloc_new _ _
  have hs : (((wr.alloc G).alloc S).alloc D).heap[w0.heap.size + 1 + 1]? = some S := by
    rw [Below.heap_alloc _ _ _ (by rw [hs2]; omega), ← hs1]; exact heap_alloc_new _ _
  have hold : ∀ k, k < wr.heap.size → (((wr.alloc G).alloc S).alloc D).heap[k]? = wr.heap[k]? := fun k hk => by
    rw [Below.heap_alloc _ _ _ (by rw [hs2]; omega), Below.heap_alloc _ _ _ (by rw [hs1]; omega), Below.heap_alloc _ _ _ hk]
  have hbl : ∀ k, k < w0.heap.size → (((wr.alloc G).alloc S).alloc D).heap[k]? = w0.heap[k]? := fun k hk => (hold k (by omega)).trans (hP.below.block k hk)
  have hA : Arena (((wr.alloc G).alloc S).alloc D) (w0.heap.size + 1 + 1) (w0.heap.size + 1) w.heap.size w0.heap.size (some (w0.heap.size + 1 + 1 + 1)) T K := by
    refine arena_mk hO hbl (Nat.le_refl _) (fun b e => by cases e; omega) ?_ ?_ ?_ ?_ ⟨by omega, by simp⟩ ⟨by omega, by simp⟩
    · simp only [World.cell?, hs]; rw [← hS]; rfl
    · simp only [World.cell?, hs]; rw [← hS]; rfl
    · rw [← hm]; simp only [World.cell?, hs]; rw [← hS]; rfl
    · simp only [World.cell?, hg]; rw [← hG]; rfl
  have hp : (((wr.alloc G).alloc S).alloc D).rowIs w0.heap.size 3 (4 * T.length) (fun _ => .int .i64 (-2)) := by
    rw [← hm]
    exact (hP.row.of_block (hold _ (by omega))).congr fun i hi => by rw [if_pos hi]
  have hbb : Below w.heap.size w (((wr.alloc G).alloc S).alloc D) := by
    refine hO.below.trans ((hP.below.mono (by omega)).trans ⟨rfl, rfl, rfl, by simp; omega, fun k hk => hold k (by omega)⟩)
  have hbud : BudAt (((wr.alloc G).alloc S).alloc D) (some (w0.heap.size + 1 + 1 + 1)) left := fun b e => by
    obtain rfl := Option.some.inj e
    refine ⟨#[.int .i64 left], by rw [hd, ← hD], rfl, fun i hi => ?_⟩
    have : i = 0 := by omega
    subst this; rfl
  refine (closing_any _ _ _ _ (some (w0.heap.size + 1 + 1 + 1)) T K u v left _ hA hp hbud (fun b e => by cases e; omega) hu hv hn hT hrow hl).mono ?_
  rintro e w' ⟨hF, hAn⟩
  exact ⟨found_below hF hbb (by omega) (fun b e => by cases e; omega), _, fun _ => rfl, hAn⟩
end

end Go.Proofs.Qxb6600624a
