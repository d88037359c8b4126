/-
  DERIVED. count: its call of listsIn.
-/
import Derived.Test.Qxb6600940aCount2
namespace Go.Proofs.Qxb6600940a
open Go.RowKit

theorem StrsIn.strsC {P : Nat → Prop} {w : World} {v : Value} {xs : List ByteArray} (h : StrsIn P w v xs) : StrsC w v xs := ⟨h.1, h.2.2⟩

def Listed (I : Ix) (W : World) (sb : Nat) (sv : Value) (sc st : ByteArray) (marked : Int) (mk : Nat → Int) (lv : Value) (Ls : List (Nat × (Nat → Bool))) (n : Nat) (e : Ending) (w' : World) : Prop :=
  e = .returned (.int .i64 n) ∧ CS I W w' sb sv sc st marked mk lv Ls

theorem CS.lists {I : Ix} {W w : World} {sb : Nat} {sv : Value} {sc st : ByteArray} {marked : Int} {mk : Nat → Int} {lv : Value} {Ls : List (Nat × (Nat → Bool))} (h : CS I W w sb sv sc st marked mk lv Ls) (hs : I.Stat W) {i : Nat} (hi : i < I.n) {S : List ByteArray}
    (hS : StrsIn (fun b => b < I.base) W sv S) (hl : S.length ≤ 4096) :
    Calls Try.prog 32 #[.pointer (some ⟨I.bp i, 0, none⟩), .agg #[sv, .string sc, .string st, .int .i32 0]] w fun e w' => Listed I W sb sv sc st marked mk lv Ls (listsN (I.T.getD i []) S (I.C.getD i ⟨#[]⟩) (I.X.getD i ⟨#[]⟩) sc st) e w' := by
  have hk : ∀ b, b < W.heap.size → b < I.base → w.heap[b]? = W.heap[b]? := fun b _ hb => h.1.same b (Or.inl hb)
  refine (listsIn_any (I.bp i) (I.tv i) sv (I.T.getD i []) S (I.C.getD i ⟨#[]⟩) (I.X.getD i ⟨#[]⟩) sc st w ((hs.tops i hi).keep hk).strsC (hS.keep hk).strsC
    ((h.1.b i hi).cell (i := 1) (by omega)) ((h.1.b i hi).cell (i := 2) (by omega)) ((h.1.b i hi).cell (i := 3) (by omega)) (hs.tlen i hi) hl).mono fun e w' ⟨he, hb⟩ => ⟨he, h.later hs hb⟩

end Go.Proofs.Qxb6600940a
