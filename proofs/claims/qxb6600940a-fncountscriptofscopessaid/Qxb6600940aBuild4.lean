/-
  DERIVED. Build: what it leaves is the index.
-/
import Derived.Test.Qxb6600940aBuild3
namespace Go.Proofs.Qxb6600940a
open Go.RowKit Go.Maps

theorem strsC_in {w : World} {v : Value} {xs : List ByteArray} (h : StrsC w v xs) : StrsIn (fun b => b < w.heap.size) w v xs := by
  obtain ⟨⟨a, cap, rfl, hn, hl, hc⟩, h2⟩ := h
  refine ⟨⟨a, cap, rfl, hn, hl, hc⟩, fun b o c e h0 => ?_, h2⟩
  obtain ⟨_, b', o', e', hcell⟩ := hc 0 h0
  injection e with e1
  rw [e'] at e1
  injection e1 with e1
  injection e1 with e1
  subst e1
  exact World.block_lt_of_cell? _ _ hcell

theorem mem_pair {κ : Type} [DecidableEq κ] {Q : List (κ × Nat)} {t : κ} (h : t ∈ keysOf Q) : ∃ i, (t, i) ∈ Q := by
  have h1 := (mem_keysOf Q t).1 h
  obtain ⟨i, hi⟩ := List.exists_mem_of_ne_nil _ h1
  unfold memOf at hi
  obtain ⟨p, hp, rfl⟩ := List.mem_map.1 hi
  rw [List.mem_filter] at hp
  have e : p.1 = t := of_decide_eq_true hp.2
  exact ⟨p.2, by rw [← e]; exact hp.1⟩

theorem keysT_ok {w : World} {T : List (List ByteArray)} {C X : List ByteArray} {D : List Int} {tv : Nat → Value} {n : Nat} {ta ca xa da : Option Addr} (hin : ∀ k, k < n → InAt w ta ca xa da T C X D tv k) {t : ByteArray} (ht : t ∈ keysOf (topQ T n)) : ∃ l, keyOf Try.prog 9 (encT t) = some l := by
  obtain ⟨i, hi⟩ := mem_pair ht
  unfold topQ at hi
  obtain ⟨j, hj, hm⟩ := List.mem_flatMap.1 hi
  rw [List.mem_range] at hj
  obtain ⟨u, hu, e⟩ := List.mem_map.1 hm
  injection e with e1 e2
  subst e1
  obtain ⟨⟨_, _, _, _, _, _, hs, _⟩, _⟩ := hin j hj
  obtain ⟨⟨a, cap, _, _, _, hc⟩, _⟩ := hs
  obtain ⟨k, hk, e⟩ := List.getElem_of_mem hu
  have := (hc k hk).1
  rw [List.getD_eq_getElem?_getD, List.getElem?_eq_getElem hk] at this
  rw [← e]
  exact keyStr _ (by unfold maxLen; exact this)

theorem keysS_ok {w : World} {T : List (List ByteArray)} {C X : List ByteArray} {D : List Int} {tv : Nat → Value} {n : Nat} {ta ca xa da : Option Addr} (hin : ∀ k, k < n → InAt w ta ca xa da T C X D tv k) {t : ByteArray × ByteArray} (ht : t ∈ keysOf (subQ C X n)) : ∃ l, keyOf Try.prog 47 (encS t) = some l := by
  obtain ⟨i, hi⟩ := mem_pair ht
  unfold subQ at hi
  obtain ⟨j, hj, hm⟩ := List.mem_flatMap.1 hi
  rw [List.mem_range] at hj
  split at hm
  · cases hm
  · rw [List.mem_singleton] at hm
    injection hm with e1 e2
    subst e1
    obtain ⟨_, ⟨_, _, _, _, h1⟩, ⟨_, _, _, _, h2⟩, _⟩ := hin j hj
    exact keySubj _ _ (by unfold maxLen; exact h1) (by unfold maxLen; exact h2)

theorem built_end {w W1 W2 W3 W4 : World} {T : List (List ByteArray)} {C X : List ByteArray} {D : List Int} {tv : Nat → Value} {n : Nat} {ta ca xa da : Option Addr} {a0 a1 a2 a3 b0 b1 b2 b3 : Value} (hn : T.length = n) (hL : L1 w W1 n C X D tv n)
    (hG : Gath W1 W2 (fun i => w.heap.size + 1 + i) (fun i => D.getD i 0) (topQ T n) (subQ C X n) a0 a1 a2 a3 b0 b1 b2 b3) (h23 : Below W2.heap.size W2 W3) (h34 : Below W3.heap.size W3 W4)
    (hT : ListMap W2 W3 (W1.heap.size + 2) 9 W2.heap.size encT (fun i => w.heap.size + 1 + i) (fun i => D.getD i 0) (topQ T n) (keysOf (topQ T n)))
    (hS : ListMap W3 W4 (W1.heap.size + 2) 47 W3.heap.size encS (fun i => w.heap.size + 1 + i) (fun i => D.getD i 0) (subQ C X n) (keysOf (subQ C X n)))
    (hin : ∀ k, k < n → InAt w ta ca xa da T C X D tv k) (h4 : n ≤ 4096) (hasc : ∀ i, i < n → Asc (T.getD i [])) (htl : ∀ i, i < n → (T.getD i []).length ≤ 4096) :
    Built w T C X D (.returned (.pointer (some ⟨W4.heap.size, 0, none⟩))) (W4.alloc (.cells #[.map none, .map (some W2.heap.size), .map (some W3.heap.size), .slice none 0 0, .int .i64 0] 78)) := by
  obtain ⟨l1, c1, f1, m1, p1, q1⟩ := hT
  obtain ⟨l2, c2, f2, m2, p2, q2⟩ := hS
  have s1 : W1.heap.size = w.heap.size + 1 + n := hL.size
  have s2 : W1.heap.size + 2 ≤ W2.heap.size := by obtain ⟨F, hB, _⟩ := hG; exact hB.size
  have s3 := m1.lt
  have s4 := m2.lt
  have s34 := h34.size
  have s23 := h23.size
  have hsz : (W4.alloc (.cells #[.map none, .map (some W2.heap.size), .map (some W3.heap.size), .slice none 0 0, .int .i64 0] 78)).heap.size = W4.heap.size + 1 := by show (W4.heap.push _).size = _; rw [Array.size_push]
  have hfin : (W4.alloc (.cells #[.map none, .map (some W2.heap.size), .map (some W3.heap.size), .slice none 0 0, .int .i64 0] 78)).rowIs W4.heap.size 78 5 (fun i => if i = 0 then .map none else if i = 1 then .map (some W2.heap.size) else if i = 2 then .map (some W3.heap.size) else if i = 3 then nilV else .int .i64 0) := by
    refine World.rowIs_alloc W4 _ 78 _ (fun i hi => ?_)
    have hi' : i < 5 := hi
    have : i = 0 ∨ i = 1 ∨ i = 2 ∨ i = 3 ∨ i = 4 := by omega
    rcases this with rfl | rfl | rfl | rfl | rfl <;> rfl
  have b4 : Below W4.heap.size W4 (W4.alloc (.cells #[.map none, .map (some W2.heap.size), .map (some W3.heap.size), .slice none 0 0, .int .i64 0] 78)) := (Below.refl _ _).alloc (Nat.le_refl _) _
  generalize W4.alloc (.cells #[.map none, .map (some W2.heap.size), .map (some W3.heap.size), .slice none 0 0, .int .i64 0] 78) = W at hsz hfin b4
  have b3 : Below W3.heap.size W3 W := h34.trans (b4.mono (by omega))
  have b2 : Below W2.heap.size W2 W := h23.trans (b3.mono (by omega))
  have b1 : Below W1.heap.size W1 W := hG.low.trans (b2.mono (by omega))
  have b0 : Below w.heap.size w W := hL.below.trans (b1.mono (by omega))
  have hmemT : ∀ t, memOf (topQ T n) t = members (fun i => inB t (T.getD i [])) n := fun t => memOf_topQ T t n (fun i hi => (hasc i hi).nodup)
  have hmemS : ∀ c x, x ≠ ⟨#[]⟩ → memOf (subQ C X n) (c, x) = members (fun i => shares (C.getD i ⟨#[]⟩) (X.getD i ⟨#[]⟩) c x) n := fun c x hx => memOf_subQ C X c x hx n
  refine ⟨⟨w.heap.size, W1.heap.size, W4.heap.size, fun i => w.heap.size + 1 + i, tv, T, C, X, D, W2.heap.size, W3.heap.size, l1, fun c x => l2 (c, x)⟩, rfl, rfl, rfl, rfl, rfl, rfl, ?_, ?_, b0⟩
  · subst hn
    refine ⟨fun i hi => ?_, fun i j _ _ e => ?_, ?_, ?_, ?_, h4, fun i hi => ?_, htl, hasc, ?_, ?_, ?_, ?_, ?_, ?_⟩
    · have hi' : i < T.length := hi
      exact ⟨(by show w.heap.size ≤ w.heap.size + 1 + i; omega), (by show w.heap.size + 1 + i < W1.heap.size; omega)⟩
    · have e' : w.heap.size + 1 + i = w.heap.size + 1 + j := e
      omega
    · show W1.heap.size ≤ W4.heap.size; omega
    · show W4.heap.size < W.heap.size; omega
    · show w.heap.size ≤ W1.heap.size; omega
    · obtain ⟨⟨_, _, _, _, _, _, hs, _⟩, _⟩ := hin i hi
      exact (strsC_in hs).keep (fun b _ hb => b0.block b hb)
    · exact Or.inr ⟨(by show W1.heap.size ≤ W2.heap.size; omega), (by show W2.heap.size < W4.heap.size; omega)⟩
    · exact Or.inr ⟨(by show W1.heap.size ≤ W3.heap.size; omega), (by show W3.heap.size < W4.heap.size; omega)⟩
    · refine ⟨_, c1, f1, m1.of_block (b3.block _ s3), fun t => ?_⟩
      show f1 (encT t) = if members (fun i => inB t (T.getD i [])) T.length = [] then none else some (.pointer (some ⟨l1 t, 0, none⟩))
      rw [p1 t, ← hmemT t]
      by_cases h : memOf (topQ T T.length) t = []
      · rw [if_pos h, if_neg (fun hm => (mem_keysOf _ t).1 hm h)]
      · rw [if_neg h, if_pos ((mem_keysOf _ t).2 h)]
    · refine ⟨_, c2, f2, m2.of_block (b4.block _ s4), fun c x hx => ?_⟩
      show f2 (encS (c, x)) = if members (fun i => shares (C.getD i ⟨#[]⟩) (X.getD i ⟨#[]⟩) c x) T.length = [] then none else some (.pointer (some ⟨l2 (c, x), 0, none⟩))
      rw [p2 (c, x), ← hmemS c x hx]
      by_cases h : memOf (subQ C X T.length) (c, x) = []
      · rw [if_pos h, if_neg (fun hm => (mem_keysOf _ (c, x)).1 hm h)]
      · rw [if_neg h, if_pos ((mem_keysOf _ (c, x)).2 h)]
    · intro t ht
      have ht' : memOf (topQ T T.length) t ≠ [] := by rw [hmemT t]; exact ht
      obtain ⟨h1, h2, g, cap, h3, h5, h6, h7, h8⟩ := q1 t ((mem_keysOf _ t).2 ht')
      rw [hmemT t] at h6 h7 h8
      exact ⟨g, cap, Or.inr ⟨(by show W1.heap.size ≤ l1 t; omega), (by show l1 t < W4.heap.size; omega)⟩, Or.inr ⟨(by show W1.heap.size ≤ g; omega), (by show g < W4.heap.size; omega)⟩, (b3.cell (p := ⟨l1 t, 0, none⟩) h2).trans h6, (b3.cell (p := ⟨l1 t, 1, none⟩) h2).trans h7, fun j hj => (b2.cell (p := ⟨g, j, none⟩) h5).trans (h8 j hj)⟩
    · intro c x hx ht
      have ht' : memOf (subQ C X T.length) (c, x) ≠ [] := by rw [hmemS c x hx]; exact ht
      obtain ⟨h1, h2, g, cap, h3, h5, h6, h7, h8⟩ := q2 (c, x) ((mem_keysOf _ (c, x)).2 ht')
      rw [hmemS c x hx] at h6 h7 h8
      exact ⟨g, cap, Or.inr ⟨(by show W1.heap.size ≤ l2 (c, x); omega), (by show l2 (c, x) < W4.heap.size; omega)⟩, Or.inr ⟨(by show W1.heap.size ≤ g; omega), (by show g < W4.heap.size; omega)⟩, (b4.cell (p := ⟨l2 (c, x), 0, none⟩) h2).trans h6, (b4.cell (p := ⟨l2 (c, x), 1, none⟩) h2).trans h7, fun j hj => (b3.cell (p := ⟨g, j, none⟩) h5).trans (h8 j hj)⟩
  · subst hn
    refine ⟨rfl, rfl, rfl, Nat.le_refl _, fun _ _ => rfl, hfin, fun i hi => ?_, World.ownsRow_nil _ _ _ _⟩
    have hi' : i < T.length := hi
    exact ((hL.b i hi').of_block (b1.block _ (by show w.heap.size + 1 + i < W1.heap.size; omega))).congr (fun j _ => rfl)

end Go.Proofs.Qxb6600940a
