/-
  DERIVED. What the arguments hold, read off the row's opening.
-/
import Derived.Test.Qxb6603051aLaw
import Derived.ProofKit
import Derived.OpenShut
import Derived.ShutString
import Derived.Deep.Matrix
import Derived.Deep.Strs
namespace Go.Proofs.Qxb6603051a
open Go.ChangeShapes Go.WideShapes Go.ChangeAt Go.RowKit Go.Deep

theorem strs_cells {H : Type} {enc : TypeId × Value → H} {W : World} {fuel : Nat} {v : Value} {x : DataW H × List MemPlace} (h : DataW.trod enc Try.prog W 0 (fun _ => true) true fuel 22 [v] = some x) : ∃ S, Strs W v S := by
  rcases open_strs Try.underlying22 Try.underlying9 (by kernel_rfl) h with ⟨hcs, _⟩ | ⟨a, len, cap, m, Sx, hcs, _, hl, hm, hmm, _, hc⟩
  · obtain rfl : v = .slice none 0 0 := by simpa using hcs
    exact ⟨[], none, 0, rfl, fun _ => rfl, by simp, fun k hk => absurd hk (Nat.not_lt_zero _)⟩
  · obtain rfl : v = .slice (some a) len cap := by simpa using hcs
    simp only [if_true] at hmm
    subst hmm
    have hlen : ((List.range len).map Sx).length = len := by simp
    unfold maxLen at hm
    refine ⟨(List.range len).map Sx, some a, m, by rw [hlen], (fun h => by cases h), by rw [hlen]; omega, fun k hk => ?_⟩
    rw [hlen] at hk
    have hget : ((List.range len).map Sx).getD k ByteArray.empty = Sx k := by simp [List.getD, hk]
    rw [hget]
    obtain ⟨hcell, hsz⟩ := hc k (by omega)
    obtain ⟨b, o, sp⟩ := a
    have hs : sp = none := by simpa [Addr.add] using World.cell?_spot (hc 0 (by omega)).1
    subst hs
    exact ⟨by unfold maxLen at hsz; exact hsz, b, o, rfl, by rw [← add_plain]; exact hcell⟩

theorem strs_open {H : Type} {enc : TypeId × Value → H} {W : World} {v : Value} {d : DataW H} {p : List MemPlace} (h : DataW.Trod enc Try.prog W 0 (fun _ => true) true 22 v d p) (hv : ∃ a len cap, v = .slice a len cap) : ∃ S, Strs W v S := by
  obtain ⟨a0, len, cap, rfl⟩ := hv
  obtain ⟨fuel, hf⟩ := h
  exact strs_cells hf

theorem wf_range {z : Int} (h : (Lit.int .i64 z).wf = true) : inRange z := by
  have := bounds_i64 h
  unfold inRange
  omega

theorem ints_cells {H : Type} {enc : TypeId × Value → H} {W : World} {fuel : Nat} {v : Value} {x : DataW H × List MemPlace} (h : DataW.trod enc Try.prog W 0 (fun _ => true) true fuel 24 [v] = some x) : ∃ S, Ints W v S ∧ ∀ i, inRange (S.getD i 0) := by
  rcases open_ints Try.underlying24 Try.underlying3 (by kernel_rfl) h with ⟨hcs, _⟩ | ⟨a, len, cap, zs, hcs, _, hl, hm, hz, _, hc, hw⟩
  · obtain rfl : v = .slice none 0 0 := by simpa using hcs
    exact ⟨[], ⟨none, 0, rfl, fun _ => rfl, by simp, fun k hk => absurd hk (Nat.not_lt_zero _)⟩, fun i => by simp [inRange]⟩
  · obtain rfl : v = .slice (some a) len cap := by simpa using hcs
    simp only [if_true] at hz
    unfold maxLen at hm
    have hlen : (zs.take len).length = len := by rw [List.length_take]; omega
    refine ⟨zs.take len, ⟨some a, cap, by rw [hlen], (fun h => by cases h), by rw [hlen]; omega, fun k hk => ?_⟩, fun i => ?_⟩
    · rw [hlen] at hk
      have hget : (zs.take len).getD k 0 = zs.getD k 0 := by simp [List.getD, hk]
      rw [hget]
      have hcell := hc k (by omega)
      obtain ⟨b, o, sp⟩ := a
      have hs : sp = none := by simpa [Addr.add] using World.cell?_spot (hc 0 (by omega))
      subst hs
      exact ⟨b, o, rfl, by rw [← add_plain]; exact hcell⟩
    · rcases Nat.lt_or_ge i (zs.take len).length with hi | hi
      · rw [List.getD_eq_getElem?_getD, List.getElem?_eq_getElem hi]
        exact wf_range (hw _ (List.mem_of_mem_take (List.getElem_mem hi)))
      · rw [List.getD_eq_getElem?_getD, List.getElem?_eq_none hi]; simp [inRange]

theorem ints_open {H : Type} {enc : TypeId × Value → H} {W : World} {v : Value} {d : DataW H} {p : List MemPlace} (h : DataW.Trod enc Try.prog W 0 (fun _ => true) true 24 v d p) (hv : ∃ a len cap, v = .slice a len cap) : ∃ S, Ints W v S ∧ ∀ i, inRange (S.getD i 0) := by
  obtain ⟨a0, len, cap, rfl⟩ := hv
  obtain ⟨fuel, hf⟩ := h
  exact ints_cells hf

theorem tab_open {H : Type} {enc : TypeId × Value → H} {W : World} {v : Value} {d : DataW H} {p : List MemPlace} (h : DataW.Trod enc Try.prog W 0 (fun _ => true) true 43 v d p) (hv : ∃ a len cap, v = .slice a len cap) : ∃ T, STab W v T := by
  obtain ⟨a0, len, cap, rfl⟩ := hv
  obtain ⟨fuel, hf⟩ := h
  rcases open_slice1 Try.underlying43 (by kernel_rfl) hf with ⟨hcs, _⟩ | ⟨a, len', cap', m, n, V, D, Pl, hcs, _, hl, hm, hmm, _, hx⟩
  · simp [Value.cells] at hcs
    obtain ⟨rfl, rfl, rfl⟩ := hcs
    exact ⟨[], none, 0, rfl, by simp, fun k hk => absurd hk (Nat.not_lt_zero _)⟩
  · simp [Value.cells] at hcs
    obtain ⟨rfl, rfl, rfl⟩ := hcs
    simp only [if_true] at hmm
    subst hmm
    unfold maxLen at hm
    have hch : ∀ k, ∃ S, k < len → Strs W (V k) S := fun k => by
      by_cases hk : k < len
      · obtain ⟨S, hS⟩ := strs_cells (hx k (by omega)).2; exact ⟨S, fun _ => hS⟩
      · exact ⟨[], fun h => absurd h hk⟩
    have hlen : ((List.range len).map fun k => (hch k).choose).length = len := by simp
    refine ⟨(List.range len).map fun k => (hch k).choose, some a, m, by rw [hlen], by rw [hlen]; omega, fun k hk => ?_⟩
    rw [hlen] at hk
    have hget : ((List.range len).map fun k => (hch k).choose).getD k [] = (hch k).choose := by simp [List.getD, hk]
    rw [hget]
    have hcell := (hx k (by omega)).1
    obtain ⟨b, o, sp⟩ := a
    have hs : sp = none := by simpa [Addr.add] using World.cell?_spot (hx 0 (by omega)).1
    subst hs
    exact ⟨b, o, V k, rfl, by rw [← add_plain]; exact hcell, (hch k).choose_spec hk⟩

theorem itab_open {H : Type} {enc : TypeId × Value → H} {W : World} {v : Value} {d : DataW H} {p : List MemPlace} (h : DataW.Trod enc Try.prog W 0 (fun _ => true) true 52 v d p) (hv : ∃ a len cap, v = .slice a len cap) : ∃ T, ITab W v T ∧ ∀ i j, inRange ((T.getD i []).getD j 0) := by
  obtain ⟨a0, len, cap, rfl⟩ := hv
  obtain ⟨fuel, hf⟩ := h
  rcases open_slice1 Try.underlying52 (by kernel_rfl) hf with ⟨hcs, _⟩ | ⟨a, len', cap', m, n, V, D, Pl, hcs, _, hl, hm, hmm, _, hx⟩
  · simp [Value.cells] at hcs
    obtain ⟨rfl, rfl, rfl⟩ := hcs
    exact ⟨[], ⟨none, 0, rfl, by simp, fun k hk => absurd hk (Nat.not_lt_zero _)⟩, fun i j => by simp [inRange]⟩
  · simp [Value.cells] at hcs
    obtain ⟨rfl, rfl, rfl⟩ := hcs
    simp only [if_true] at hmm
    subst hmm
    unfold maxLen at hm
    have hch : ∀ k, ∃ S : List Int, (k < len → Ints W (V k) S) ∧ ∀ j, inRange (S.getD j 0) := fun k => by
      by_cases hk : k < len
      · obtain ⟨S, hS, hr⟩ := ints_cells (hx k (by omega)).2; exact ⟨S, fun _ => hS, hr⟩
      · exact ⟨[], fun h => absurd h hk, fun j => by simp [inRange]⟩
    have hlen : ((List.range len).map fun k => (hch k).choose).length = len := by simp
    refine ⟨(List.range len).map fun k => (hch k).choose, ⟨some a, m, by rw [hlen], by rw [hlen]; omega, fun k hk => ?_⟩, fun i j => ?_⟩
    rotate_left
    · rcases Nat.lt_or_ge i len with hi | hi
      · have hget : ((List.range len).map fun k => (hch k).choose).getD i [] = (hch i).choose := by simp [List.getD, hi]
        rw [hget]
        exact (hch i).choose_spec.2 j
      · have hget : ((List.range len).map fun k => (hch k).choose).getD i [] = [] := by simp [List.getD, hi]
        rw [hget]
        simp [inRange]
    rw [hlen] at hk
    have hget : ((List.range len).map fun k => (hch k).choose).getD k [] = (hch k).choose := by simp [List.getD, hk]
    rw [hget]
    have hcell := (hx k (by omega)).1
    obtain ⟨b, o, sp⟩ := a
    have hs : sp = none := by simpa [Addr.add] using World.cell?_spot (hx 0 (by omega)).1
    subst hs
    exact ⟨b, o, V k, rfl, by rw [← add_plain]; exact hcell, (hch k).choose_spec.1 hk⟩

theorem laidOut : laidOutB Try.prog = true := by kernel_rfl

end Go.Proofs.Qxb6603051a
