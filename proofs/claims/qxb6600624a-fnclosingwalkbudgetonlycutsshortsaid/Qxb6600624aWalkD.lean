import Derived.Test.Qxb6600624aLoop
namespace Go.Proofs.Qxb6600624a
open Go.RowKit

/-- Only block pb may have turned. -/
structure OnlyAt (pb : Nat) (w w' : World) : Prop where
  os : w'.os = w.os
  tape : w'.tape = w.tape
  output : w'.output = w.output
  size : w'.heap.size = w.heap.size
  block : ∀ k, k ≠ pb → w'.heap[k]? = w.heap[k]?

theorem OnlyAt.cell {pb : Nat} {w w' : World} (h : OnlyAt pb w w') {b o : Nat} (hb : b ≠ pb) : w'.cell? ⟨b, o, none⟩ = w.cell? ⟨b, o, none⟩ := World.cell?_of_block (w := w) (h.block b hb)

theorem OnlyAt.set {pb : Nat} {w w' : World} (h : OnlyAt pb w w') (y : Nat) (v : Value) : OnlyAt pb w (w'.setCell ⟨pb, y, none⟩ v) :=
  ⟨h.os, h.tape, h.output, by simpa [World.setCell] using h.size, fun k hk => (Below.heap_setCell _ _ _ _ hk).trans (h.block k hk)⟩

set_option maxRecDepth 100000 in
set_option maxHeartbeats 400000 in
theorem closure_any (qb xb g cap pb m : Nat) (q : List Nat) (f : Nat → Value) (u : FrameMode) (w : World)
    (h1 : w.cell? ⟨qb, 0, none⟩ = some (.slice (some ⟨g, 0, none⟩) q.length cap)) (h2 : w.cell? ⟨xb, 0, none⟩ = some (.slice (some ⟨pb, 0, none⟩) m m))
    (hq : ∀ k, k < q.length → w.cell? ⟨g, k, none⟩ = some (.int .i64 (q.getD k 0 : Nat))) (hm : ∀ k, k < q.length → q.getD k 0 < m) (hl : q.length ≤ 1048576)
    (n2 : xb ≠ pb) (n3 : g ≠ pb) (hp : w.rowIs pb 3 m f) :
    CallsD Try.prog 27 #[.pointer (some ⟨qb, 0, none⟩), .pointer (some ⟨xb, 0, none⟩)] u w fun e u' w' => u' = u ∧ (e = .returned (.tuple #[]) ∧ OnlyAt pb w w') := by
  go_enter_d Try.func27, Try.ntmps27
  go_wp2
  go_loopw [6] (fun i wr => ∃ k : Nat, k ≤ q.length ∧ i = .int .i64 k ∧ OnlyAt pb w wr ∧ ∃ f, wr.rowIs pb 3 m f) (fun i _ => q.length - (intOf i).toNat)
  case atStart => exact ⟨0, Nat.zero_le _, rfl, ⟨rfl, rfl, rfl, rfl, fun _ _ => rfl⟩, f, hp⟩
  case round =>
    obtain ⟨k, hk, rfl, ho, f', hp'⟩ := hrel
    by_cases hlt : k < q.length
    · have c1 := (ho.cell (o := k) n3).trans (hq k hlt)
      have c2 := (ho.cell (o := 0) n2).trans h2
      have hm2 := hm k hlt
      generalize q.getD k 0 = x at *
      have c3 := hp'.cell hm2
      have c4 := hp'.frozen x
      have HS := ho.set x (.int .i64 (-2))
      have HP := hp'.set x (.int .i64 (-2))
      generalize f' x = fx at *
      have hm3 : (x : Int) < (m : Int) := by omega
      clear hq hm h1 h2 ho hp' hp
      go_wp2
      go_roundw
      case rel => exact ⟨k + 1, by omega, by go_num, HS, _, HP⟩
      case measure => simp [intOf]; omega
    · clear hq hm
      go_wp2
      go_end0
      exact ⟨rfl, ho⟩

end Go.Proofs.Qxb6600624a
