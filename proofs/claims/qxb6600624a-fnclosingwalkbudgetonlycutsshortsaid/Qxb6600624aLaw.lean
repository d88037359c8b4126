import Derived.Test.Qxb6600624aZZ
import Derived.Test.Qxb6600624aWalkA
namespace Go.Proofs.Qxb6600624a
open Go.RowKit

theorem chase_len (par : Nat → Int) : ∀ (f : Nat) (z : Int), (Plain.chase par f z).length ≤ f := by
  intro f
  induction f with
  | zero => intro z; simp [Plain.chase]
  | succ f ih =>
    intro z
    simp only [Plain.chase]
    split
    · simp
    · simp only [List.length_cons]
      have := ih (par z.toNat)
      omega

theorem walk_len (u : Int) (tgt : Nat) (s : Plain.St) : (Plain.walk u tgt s).length ≤ s.q.length + 2 := by
  unfold Plain.walk
  rw [Plain.turn_len]
  unfold Plain.back
  simp only [List.length_cons]
  have := chase_len s.par (s.q.length + 1) (s.par tgt)
  omega

theorem WalkIs.below {w w' : World} {wv : Value} {u : Int} {tgt : Nat} {s : Plain.St} (h : WalkIs w wv u tgt s) (hb : Below w.heap.size w w') : WalkIs w' wv u tgt s := by
  rcases h with h | ⟨h1, g, cap, h2, h3⟩
  · exact Or.inl h
  · exact Or.inr ⟨h1, g, cap, h2, fun k hk => cell_later hb (h3 k hk)⟩

theorem sameWalk_of {w : World} {wv wv' : Value} {u : Int} {tgt : Nat} {s : Plain.St} (h : WalkIs w wv u tgt s) (h' : WalkIs w wv' u tgt s) (hl : s.q.length ≤ 1048576) :
    Calls Try.prog 18 #[wv, wv'] w fun e w' => e = .returned (.bool true) ∧ Drew w w' := by
  have hwl := walk_len u tgt s
  rcases h with ⟨h1, rfl⟩ | ⟨h1, g, cap, rfl, h3⟩
  · rcases h' with ⟨_, rfl⟩ | ⟨h1', _⟩
    · exact sameWalk_yes none none [] 0 0 w rfl (by simp) (fun k hk => absurd hk (Nat.not_lt_zero _)) (fun k hk => absurd hk (Nat.not_lt_zero _))
    · exact absurd h1 h1'
  · rcases h' with ⟨h1', _⟩ | ⟨_, g', cap', rfl, h3'⟩
    · exact absurd h1' h1
    · exact sameWalk_yes _ _ _ _ _ w rfl (by omega) (fun k hk => ⟨g, 0, rfl, by rw [Nat.zero_add]; exact h3 k hk⟩) (fun k hk => ⟨g', 0, rfl, by rw [Nat.zero_add]; exact h3' k hk⟩)

theorem row_le_words (T : List (List Int)) : ∀ k, k < T.length → (T.getD k []).length ≤ words T := by
  intro k hk
  have h1 := words_take_succ T k hk
  have h2 := words_take_le T (k + 1)
  omega

theorem tab_slice {w : World} {v : Value} {T : List (List Int)} (h : Tab w v T) : ∃ a cap, v = .slice a T.length cap := by
  obtain ⟨a, cap, h, _⟩ := h
  exact ⟨a, cap, h⟩

theorem inR_of {T : List (List Int)} (h : inRange T (T.length : Int)) : Plain.InR T T.length ∧ ∀ k, k < T.length → ∀ j, j < Plain.deg T k → (T.getD k []).getD j 0 = ((Plain.tgtOf T k j : Nat) : Int) := by
  refine ⟨fun i hi j hj => ?_, fun k hk j hj => ?_⟩
  · have := h i hi j hj
    unfold Plain.tgtOf
    omega
  · have := h k hk j hj
    unfold Plain.tgtOf
    omega

/-- What the two calls of the search say of each other. -/
theorem agree {w4 w5 : World} {T K : List (List Int)} {u v : Nat} {left : Int} {e1 e2 : Ending} (hf : ∃ bud : Option Nat, (bud ≠ none → false = true) ∧ Answer w4 bud T K u (4 * u + 1) (4 * v + 2) 0 e1) (hc : ∃ bud : Option Nat, (bud ≠ none → true = true) ∧ Answer w5 bud T K u (4 * u + 1) (4 * v + 2) left e2)
    (hT : Plain.InR T T.length) (hv : v < T.length) (hn : T.length ≤ 65536) :
    ∃ wf s, e1 = .returned (.tuple #[wf, .bool true]) ∧ WalkIs w4 wf u (4 * u + 1) s ∧ s.q.length ≤ 1048576 ∧
      ((e2 = .returned (.tuple #[.slice none 0 0, .bool false]) ∧ left < 4 * (words T : Int)) ∨ ∃ wc, e2 = .returned (.tuple #[wc, .bool true]) ∧ WalkIs w5 wc u (4 * u + 1) s) := by
  obtain ⟨bud, hb, i, hi, h⟩ := hf
  obtain ⟨bud2, _, j, hj, h2⟩ := hc
  have hf : 4 * v + 2 < 4 * T.length := by omega
  obtain ⟨hG, _⟩ := Plain.bfs_good (K := K) (u := u) hT hf i hi
  have hGl := hG.len
  rcases h with ⟨hbn, _⟩ | ⟨hst, wf, he, hW⟩
  · exact absurd (hb hbn) (by decide)
  refine ⟨wf, _, he, hW, by omega, ?_⟩
  rcases h2 with ⟨_, hns, hlt, he2⟩ | ⟨hst2, wc, he2, hW2⟩
  · refine Or.inl ⟨he2, ?_⟩
    have hle : Plain.spent T K u (4 * u + 1) (4 * v + 2) (j + 1) ≤ 4 * Plain.arcs T := Plain.spent_le hT hf (fun k hk => by
      rcases Nat.lt_succ_iff_lt_or_eq.1 hk with h | h
      · exact hj k h
      · rw [h]; exact hns)
    have : Plain.arcs T = words T := rfl
    omega
  · have hij := Plain.stop_unique hi hst hj hst2
    subst hij
    exact Or.inr ⟨wc, he2, hW2⟩

end Go.Proofs.Qxb6600624a
