/-
  DERIVED. What the arguments hold, read off the row's opening.
-/
import Derived.Test.Qxb6600940aKeys
import Derived.ProofKit
import Derived.OpenShut
import Derived.ShutString
import Derived.Deep.Matrix
import Derived.Deep.Strs
namespace Go.Proofs.Qxb6600940a
open Go.ChangeShapes Go.WideShapes Go.ChangeAt Go.RowKit Go.Deep

theorem strs_cells {H : Type} {enc : TypeId × Value → H} {W : World} {fuel : Nat} {v : Value} {x : DataW H × List MemPlace} (h : DataW.trod enc Try.prog W 0 (fun _ => true) true fuel 24 [v] = some x) : ∃ S, Strs W v S := by
  rcases open_strs Try.underlying24 Try.underlying9 (by kernel_rfl) h with ⟨hcs, _⟩ | ⟨a, len, cap, m, Sx, hcs, _, hl, hm, hmm, _, hc⟩
  · obtain rfl : v = .slice none 0 0 := by simpa using hcs
    exact ⟨[], none, 0, rfl, fun _ => rfl, by simp, fun k hk => absurd hk (Nat.not_lt_zero _)⟩
  · obtain rfl : v = .slice (some a) len cap := by simpa using hcs
    simp only [if_true] at hmm
    subst hmm
    have hlen : ((List.range len).map Sx).length = len := by simp
    unfold maxLen at hm
    refine ⟨(List.range len).map Sx, some a, m, by rw [hlen], (fun h => by cases h), by rw [hlen]; omega, fun k hk => ?_⟩
    rw [hlen] at hk
    have hget : ((List.range len).map Sx).getD k ByteArray.empty = Sx k := by simp [List.getD, hk]
    rw [hget]
    obtain ⟨hcell, hsz⟩ := hc k (by omega)
    obtain ⟨b, o, sp⟩ := a
    have hs : sp = none := by simpa [Addr.add] using World.cell?_spot (hc 0 (by omega)).1
    subst hs
    exact ⟨by unfold maxLen at hsz; exact hsz, b, o, rfl, by rw [← add_plain]; exact hcell⟩

theorem strs_open {H : Type} {enc : TypeId × Value → H} {W : World} {v : Value} {d : DataW H} {p : List MemPlace} (h : DataW.Trod enc Try.prog W 0 (fun _ => true) true 24 v d p) (hv : ∃ a len cap, v = .slice a len cap) : ∃ S, Strs W v S := by
  obtain ⟨a0, len, cap, rfl⟩ := hv
  obtain ⟨fuel, hf⟩ := h
  exact strs_cells hf

theorem ints_open {H : Type} {enc : TypeId × Value → H} {W : World} {v : Value} {d : DataW H} {p : List MemPlace} (h : DataW.Trod enc Try.prog W 0 (fun _ => true) true 32 v d p) (hv : ∃ a len cap, v = .slice a len cap) : ∃ S, Ints W v S := by
  obtain ⟨a0, len, cap, rfl⟩ := hv
  obtain ⟨fuel, hf⟩ := h
  rcases open_ints Try.underlying32 Try.underlying3 (by kernel_rfl) hf with ⟨hcs, _⟩ | ⟨a, len', cap', zs, hcs, _, hl, hm, hz, _, hc, _⟩
  · simp [Value.cells] at hcs
    obtain ⟨rfl, rfl, rfl⟩ := hcs
    exact ⟨[], none, 0, rfl, fun _ => rfl, by simp, fun k hk => absurd hk (Nat.not_lt_zero _)⟩
  · simp [Value.cells] at hcs
    obtain ⟨rfl, rfl, rfl⟩ := hcs
    simp only [if_true] at hz
    unfold maxLen at hm
    have hlen : (zs.take len).length = len := by rw [List.length_take]; omega
    refine ⟨zs.take len, some a, cap, by rw [hlen], (fun h => by cases h), by rw [hlen]; omega, fun k hk => ?_⟩
    rw [hlen] at hk
    have hget : (zs.take len).getD k 0 = zs.getD k 0 := by simp [List.getD, hk]
    rw [hget]
    have hcell := hc k (by omega)
    obtain ⟨b, o, sp⟩ := a
    have hs : sp = none := by simpa [Addr.add] using World.cell?_spot (hc 0 (by omega))
    subst hs
    exact ⟨b, o, rfl, by rw [← add_plain]; exact hcell⟩

theorem tab_open {H : Type} {enc : TypeId × Value → H} {W : World} {v : Value} {d : DataW H} {p : List MemPlace} (h : DataW.Trod enc Try.prog W 0 (fun _ => true) true 31 v d p) (hv : ∃ a len cap, v = .slice a len cap) : ∃ T, STab W v T := by
  obtain ⟨a0, len, cap, rfl⟩ := hv
  obtain ⟨fuel, hf⟩ := h
  rcases open_slice1 Try.underlying31 (by kernel_rfl) hf with ⟨hcs, _⟩ | ⟨a, len', cap', m, n, V, D, Pl, hcs, _, hl, hm, hmm, _, hx⟩
  · simp [Value.cells] at hcs
    obtain ⟨rfl, rfl, rfl⟩ := hcs
    exact ⟨[], none, 0, rfl, by simp, fun k hk => absurd hk (Nat.not_lt_zero _)⟩
  · simp [Value.cells] at hcs
    obtain ⟨rfl, rfl, rfl⟩ := hcs
    simp only [if_true] at hmm
    subst hmm
    unfold maxLen at hm
    have hch : ∀ k, ∃ S, k < len → Strs W (V k) S := fun k => by
      by_cases hk : k < len
      · obtain ⟨S, hS⟩ := strs_cells (hx k (by omega)).2; exact ⟨S, fun _ => hS⟩
      · exact ⟨[], fun h => absurd h hk⟩
    have hlen : ((List.range len).map fun k => (hch k).choose).length = len := by simp
    refine ⟨(List.range len).map fun k => (hch k).choose, some a, m, by rw [hlen], by rw [hlen]; omega, fun k hk => ?_⟩
    rw [hlen] at hk
    have hget : ((List.range len).map fun k => (hch k).choose).getD k [] = (hch k).choose := by simp [List.getD, hk]
    rw [hget]
    have hcell := (hx k (by omega)).1
    obtain ⟨b, o, sp⟩ := a
    have hs : sp = none := by simpa [Addr.add] using World.cell?_spot (hx 0 (by omega)).1
    subst hs
    exact ⟨b, o, V k, rfl, by rw [← add_plain]; exact hcell, (hch k).choose_spec hk⟩

end Go.Proofs.Qxb6600940a
