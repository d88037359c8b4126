/-
  The plain law: what the breadth-first search computes, as functions on lists and numbers. No Go here.
-/
namespace Go.Proofs.Qxb6600624a.Plain

/-- The state of the search: who reached each step, and the queue. -/
structure St where
  par : Nat → Int
  q : List Nat

def upd (f : Nat → Int) (y : Nat) (v : Int) : Nat → Int := fun k => if k = y then v else f k

/-- The arc j of node i: its target and its kind. -/
def tgtOf (T : List (List Int)) (i j : Nat) : Nat := ((T.getD i []).getD j 0).toNat
def kindOf (K : List (List Int)) (i j : Nat) : Int := (K.getD i []).getD j 0
def deg (T : List (List Int)) (i : Nat) : Nat := (T.getD i []).length

/-- 'next': the state that an arc leads to from state st. -/
def nextSt (st t : Nat) (kind : Int) : Option Nat :=
  if kind = 2 then some (2 * t + st % 2) else if kind ≠ 1 then some (2 * t) else if st % 2 = 1 then none else some (2 * t + 1)

/-- One arc of the scan at step x. -/
def step (u tgt x t : Nat) (kind : Int) (s : St) : St :=
  match nextSt (x / 2) t kind with
  | none => s
  | some ns =>
    let y := if kind = 1 then 2 * ns + 1 else 2 * ns + x % 2
    if (ns / 2 ≠ u ∨ y = tgt) ∧ s.par y = -2 then ⟨upd s.par y x, s.q ++ [y]⟩ else s

/-- The first j arcs of step x's node. -/
def scan (T K : List (List Int)) (u tgt x : Nat) : Nat → St → St
  | 0, s => s
  | j + 1, s => step u tgt x (tgtOf T (x / 4) j) (kindOf K (x / 4) j) (scan T K u tgt x j s)

def start (frm : Nat) : St := ⟨upd (fun _ => -2) frm (-1), [frm]⟩

/-- The state behind i rounds of the outer loop. -/
def bfs (T K : List (List Int)) (u tgt frm : Nat) : Nat → St
  | 0 => start frm
  | i + 1 =>
    let s := bfs T K u tgt frm i
    let x := s.q.getD i 0
    scan T K u tgt x (deg T (x / 4)) s

def stop (tgt : Nat) (s : St) (i : Nat) : Prop := ¬ (i < s.q.length ∧ s.par tgt = -2)

/-- What the budget has lost behind i rounds. -/
def spent (T K : List (List Int)) (u tgt frm : Nat) : Nat → Nat
  | 0 => 0
  | i + 1 => spent T K u tgt frm i + deg T ((bfs T K u tgt frm i).q.getD i 0 / 4)

/-- The invariant: m steps in all. -/
structure Good (m frm : Nat) (s : St) : Prop where
  nodup : s.q.Nodup
  lt : ∀ y ∈ s.q, y < m
  seen : ∀ y, s.par y ≠ -2 ↔ y ∈ s.q
  head : s.q[0]? = some frm
  back : ∀ k y, s.q[k]? = some y → (k = 0 ∧ s.par y = -1) ∨ ∃ (j : Nat) (z : Nat), j < k ∧ s.q[j]? = some z ∧ s.par y = (z : Int)

theorem Good.pos {m frm : Nat} {s : St} (h : Good m frm s) : 0 < s.q.length := by
  have := h.head
  cases hq : s.q with
  | nil => rw [hq] at this; simp at this
  | cons a l => simp

theorem good_start (m frm : Nat) (h : frm < m) : Good m frm (start frm) := by
  refine ⟨by simp [start], by simp [start]; exact h, fun y => ?_, rfl, fun k y hk => ?_⟩
  · simp only [start, upd, List.mem_singleton]
    by_cases e : y = frm <;> simp [e]
  · simp only [start] at hk
    cases k with
    | zero => simp at hk; subst hk; exact Or.inl ⟨rfl, by simp [start, upd]⟩
    | succ k => simp at hk

theorem good_add {m frm : Nat} {s : St} (h : Good m frm s) {x y i : Nat} (hx : s.q[i]? = some x) (hy : y < m) (hn : s.par y = -2) : Good m frm ⟨upd s.par y x, s.q ++ [y]⟩ := by
  have hyq : y ∉ s.q := fun hm => (h.seen y).2 hm hn
  have hpos := h.pos
  have hil : i < s.q.length := (List.getElem?_eq_some_iff.1 hx).1
  refine ⟨?_, ?_, fun z => ?_, ?_, fun k z hk => ?_⟩
  · rw [List.nodup_append]
    refine ⟨h.nodup, by simp, fun a ha b hb => ?_⟩
    simp at hb
    subst hb
    exact fun e => hyq (e ▸ ha)
  · intro z hz
    rcases List.mem_append.1 hz with hz | hz
    · exact h.lt z hz
    · simp at hz; omega
  · simp only [upd, List.mem_append, List.mem_singleton]
    by_cases e : z = y
    · subst e; simp
    · simp [e, h.seen z]
  · show (s.q ++ [y])[0]? = _
    rw [List.getElem?_append_left hpos]; exact h.head
  · have hk' : (s.q ++ [y])[k]? = some z := hk
    show (k = 0 ∧ upd s.par y x z = -1) ∨ ∃ (j : Nat) (z' : Nat), j < k ∧ (s.q ++ [y])[j]? = some z' ∧ upd s.par y x z = (z' : Int)
    by_cases hkl : k < s.q.length
    · rw [List.getElem?_append_left hkl] at hk'
      have hzq : z ∈ s.q := List.mem_of_getElem? hk'
      have hne : z ≠ y := fun e => hyq (e ▸ hzq)
      rcases h.back k z hk' with ⟨h0, h1⟩ | ⟨j, z', hj, hz', hp⟩
      · exact Or.inl ⟨h0, by simp [upd, hne, h1]⟩
      · exact Or.inr ⟨j, z', hj, by rw [List.getElem?_append_left (by omega)]; exact hz', by simp [upd, hne, hp]⟩
    · rw [List.getElem?_append_right (by omega)] at hk'
      have hk2 : k - s.q.length = 0 := by
        rcases Nat.eq_zero_or_pos (k - s.q.length) with h0 | h0
        · exact h0
        · rw [List.getElem?_eq_none (by simp; omega)] at hk'; cases hk'
      rw [hk2] at hk'
      simp at hk'
      subst hk'
      exact Or.inr ⟨i, x, by omega, by rw [List.getElem?_append_left hil]; exact hx, by simp [upd]⟩

/-- Where an arc leads from step x, if it leads anywhere. -/
def yOf (x t : Nat) (kind : Int) : Option Nat := (nextSt (x / 2) t kind).map fun ns => if kind = 1 then 2 * ns + 1 else 2 * ns + x % 2

theorem nextSt_lt {st t n : Nat} {kind : Int} {ns : Nat} (h : nextSt st t kind = some ns) (ht : t < n) : ns < 2 * n ∧ ns / 2 = t := by
  unfold nextSt at h
  split at h
  · simp at h; omega
  · split at h
    · simp at h; omega
    · split at h
      · cases h
      · simp at h; omega

/-- A step adds at most one at the queue's end; the queue only grows. -/
theorem step_good {n frm : Nat} {s : St} (h : Good (4 * n) frm s) {u tgt x t i : Nat} {kind : Int} (hx : s.q[i]? = some x) (ht : t < n) :
    Good (4 * n) frm (step u tgt x t kind s) ∧ (step u tgt x t kind s).q[i]? = some x ∧ s.q.length ≤ (step u tgt x t kind s).q.length ∧ (∀ k, k < s.q.length → (step u tgt x t kind s).q[k]? = s.q[k]?) := by
  unfold step
  cases hns : nextSt (x / 2) t kind with
  | none => exact ⟨h, hx, Nat.le_refl _, fun _ _ => rfl⟩
  | some ns =>
    have hl := nextSt_lt hns ht
    dsimp only
    generalize hy : (if kind = 1 then 2 * ns + 1 else 2 * ns + x % 2) = y
    have hy4 : y < 4 * n := by
      split at hy <;> omega
    split
    · rename_i hc
      have hil : i < s.q.length := (List.getElem?_eq_some_iff.1 hx).1
      refine ⟨good_add h hx hy4 hc.2, ?_, by simp, fun k hk => ?_⟩
      · show (s.q ++ [y])[i]? = _
        rw [List.getElem?_append_left hil]; exact hx
      · show (s.q ++ [y])[k]? = _
        rw [List.getElem?_append_left hk]
    · exact ⟨h, hx, Nat.le_refl _, fun _ _ => rfl⟩

def InR (T : List (List Int)) (n : Nat) : Prop := ∀ i, i < n → ∀ j, j < deg T i → tgtOf T i j < n

theorem scan_good {n frm : Nat} {T K : List (List Int)} (hT : InR T n) {s : St} (h : Good (4 * n) frm s) {u tgt x i : Nat} (hx : s.q[i]? = some x) :
    ∀ j, j ≤ deg T (x / 4) → Good (4 * n) frm (scan T K u tgt x j s) ∧ (scan T K u tgt x j s).q[i]? = some x ∧ s.q.length ≤ (scan T K u tgt x j s).q.length ∧ (∀ k, k < s.q.length → (scan T K u tgt x j s).q[k]? = s.q[k]?) := by
  intro j
  induction j with
  | zero => intro _; exact ⟨h, hx, Nat.le_refl _, fun _ _ => rfl⟩
  | succ j ih =>
    intro hj
    obtain ⟨h1, h2, h3, h4⟩ := ih (by omega)
    have hx4 : x < 4 * n := h.lt x (List.mem_of_getElem? hx)
    obtain ⟨g1, g2, g3, g4⟩ := step_good (u := u) (tgt := tgt) (kind := kindOf K (x / 4) j) h1 h2 (hT (x / 4) (by omega) j (by omega))
    exact ⟨g1, g2, Nat.le_trans h3 g3, fun k hk => (g4 k (by omega)).trans (h4 k hk)⟩

theorem bfs_good {n frm : Nat} {T K : List (List Int)} (hT : InR T n) (hf : frm < 4 * n) {u tgt : Nat} :
    ∀ i, (∀ k, k < i → ¬ stop tgt (bfs T K u tgt frm k) k) → Good (4 * n) frm (bfs T K u tgt frm i) ∧ i ≤ (bfs T K u tgt frm i).q.length := by
  intro i
  induction i with
  | zero => intro _; exact ⟨good_start _ _ hf, Nat.zero_le _⟩
  | succ i ih =>
    intro hk
    obtain ⟨h1, _⟩ := ih fun k hk' => hk k (by omega)
    have hs := Classical.not_not.1 (hk i (Nat.lt_succ_self i))
    have hx : (bfs T K u tgt frm i).q[i]? = some ((bfs T K u tgt frm i).q.getD i 0) := by
      rw [List.getD, List.getElem?_eq_getElem hs.1]; rfl
    obtain ⟨g1, _, g3, _⟩ := scan_good (K := K) (u := u) (tgt := tgt) hT h1 hx _ (Nat.le_refl _)
    exact ⟨g1, by have := hs.1; exact Nat.le_trans this g3⟩

theorem sum_le_range (f : Nat → Nat) : ∀ (m : Nat) (l : List Nat), l.Nodup → (∀ x ∈ l, x < m) → (l.map f).sum ≤ ((List.range m).map f).sum := by
  intro m
  induction m with
  | zero =>
    intro l _ hl
    cases l with
    | nil => simp
    | cons a l => exact absurd (hl a (by simp)) (Nat.not_lt_zero _)
  | succ m ih =>
    intro l hn hl
    rw [List.range_succ, List.map_append, List.sum_append]
    by_cases hm : m ∈ l
    · have hp := (List.perm_cons_erase hm).map f
      have hsum : (l.map f).sum = f m + ((l.erase m).map f).sum := by
        rw [hp.sum_nat]; simp
      have hle := ih (l.erase m) (hn.erase m) fun x hx => by
        have := (hn.mem_erase_iff).1 hx
        have := hl x this.2
        omega
      rw [hsum]; simp; omega
    · have hle := ih l hn fun x hx => by
        have := hl x hx
        have : x ≠ m := fun e => hm (e ▸ hx)
        omega
      omega

theorem nodup_len (m : Nat) (l : List Nat) (h : l.Nodup) (hl : ∀ x ∈ l, x < m) : l.length ≤ m := by
  have h1 := sum_le_range (fun _ => 1) m l h hl
  have h2 : ∀ l : List Nat, (l.map fun _ => 1).sum = l.length := fun l => by
    induction l with
    | nil => rfl
    | cons a l ih => simp [ih]; omega
  rw [h2, h2] at h1
  simpa using h1

theorem Good.len {m frm : Nat} {s : St} (h : Good m frm s) : s.q.length ≤ m := nodup_len m s.q h.nodup h.lt

/-- How many arcs there are. -/
def arcs (T : List (List Int)) : Nat := (T.map List.length).sum

theorem sum_deg (T : List (List Int)) : ((List.range T.length).map (deg T)).sum = arcs T := by
  have h : (List.range T.length).map (deg T) = T.map List.length := by
    apply List.ext_getElem
    · simp
    · intro i h1 h2
      simp at h1
      simp [deg, List.getD, h1]
  rw [h]; rfl

theorem sum_quad (f : Nat → Nat) : ∀ n, ((List.range (4 * n)).map fun x => f (x / 4)).sum = 4 * ((List.range n).map f).sum := by
  intro n
  induction n with
  | zero => simp
  | succ n ih =>
    have e : 4 * (n + 1) = 4 * n + 1 + 1 + 1 + 1 := by omega
    rw [e, List.range_succ, List.range_succ, List.range_succ, List.range_succ, List.range_succ]
    simp only [List.map_append, List.sum_append, ih, List.map_cons, List.map_nil, List.sum_cons, List.sum_nil]
    have e0 : 4 * n / 4 = n := by omega
    have e1 : (4 * n + 1) / 4 = n := by omega
    have e2 : (4 * n + 1 + 1) / 4 = n := by omega
    have e3 : (4 * n + 1 + 1 + 1) / 4 = n := by omega
    rw [e0, e1, e2, e3]
    omega

/-- What is spent is spent on the queue's first steps. -/
theorem spent_eq {n frm : Nat} {T K : List (List Int)} (hT : InR T n) (hf : frm < 4 * n) {u tgt : Nat} :
    ∀ i, (∀ k, k < i → ¬ stop tgt (bfs T K u tgt frm k) k) → spent T K u tgt frm i = (((bfs T K u tgt frm i).q.take i).map fun x => deg T (x / 4)).sum := by
  intro i
  induction i with
  | zero => intro _; simp [spent]
  | succ i ih =>
    intro hk
    obtain ⟨h1, _⟩ := bfs_good (K := K) (u := u) hT hf i fun k hk' => hk k (by omega)
    have hs := Classical.not_not.1 (hk i (Nat.lt_succ_self i))
    have hx : (bfs T K u tgt frm i).q[i]? = some ((bfs T K u tgt frm i).q.getD i 0) := by
      rw [List.getD, List.getElem?_eq_getElem hs.1]; rfl
    obtain ⟨_, g2, g3, g4⟩ := scan_good (K := K) (u := u) (tgt := tgt) hT h1 hx _ (Nat.le_refl _)
    rw [spent, ih fun k hk' => hk k (by omega)]
    have hb : bfs T K u tgt frm (i + 1) = scan T K u tgt ((bfs T K u tgt frm i).q.getD i 0) (deg T ((bfs T K u tgt frm i).q.getD i 0 / 4)) (bfs T K u tgt frm i) := rfl
    rw [← hb] at g2 g3 g4
    generalize bfs T K u tgt frm (i + 1) = s' at *
    generalize bfs T K u tgt frm i = s at *
    have hil : i < s'.q.length := (List.getElem?_eq_some_iff.1 g2).1
    have ht : s'.q.take i = s.q.take i := by
      apply List.ext_getElem?
      intro k
      by_cases hki : k < i
      · rw [List.getElem?_take_of_lt hki, List.getElem?_take_of_lt hki, g4 k (by have := hs.1; omega)]
      · rw [List.getElem?_eq_none (by simp; omega), List.getElem?_eq_none (by simp; omega)]
    rw [List.take_succ_eq_append_getElem hil, List.map_append, List.sum_append, ht]
    have := (List.getElem?_eq_some_iff.1 g2).2
    simp [this]

/-- FOUR STEPS AN ARC ARE ALWAYS ENOUGH. -/
theorem spent_le {frm : Nat} {T K : List (List Int)} (hT : InR T T.length) (hf : frm < 4 * T.length) {u tgt i : Nat} (hk : ∀ k, k < i → ¬ stop tgt (bfs T K u tgt frm k) k) : spent T K u tgt frm i ≤ 4 * arcs T := by
  obtain ⟨h1, _⟩ := bfs_good (K := K) (u := u) hT hf i hk
  rw [spent_eq hT hf i hk, ← sum_deg, ← sum_quad]
  refine sum_le_range (fun x => deg T (x / 4)) (4 * T.length) _ ?_ ?_
  · exact h1.nodup.sublist (List.take_sublist _ _)
  · intro x hx
    exact h1.lt x (List.mem_of_mem_take hx)

/-- The first stop is one. -/
theorem stop_unique {tgt : Nat} {b : Nat → St} {i j : Nat} (hi : ∀ k, k < i → ¬ stop tgt (b k) k) (hi' : stop tgt (b i) i) (hj : ∀ k, k < j → ¬ stop tgt (b k) k) (hj' : stop tgt (b j) j) : i = j := by
  rcases Nat.lt_trichotomy i j with h | h | h
  · exact absurd hi' (hj i h)
  · exact h
  · exact absurd hj' (hi j h)

/-- The walk back along the parents. -/
def chase (par : Nat → Int) : Nat → Int → List Int
  | 0, _ => []
  | f + 1, x => if x = -1 then [] else (x / 4) :: chase par f (par x.toNat)

def swap (l : List Int) (i j : Nat) : List Int := (l.set i (l.getD j 0)).set j (l.getD i 0)

/-- The loop that turns the walk round. -/
def turn : Nat → Nat → Nat → List Int → List Int
  | 0, _, _, l => l
  | f + 1, i, j, l => if i < j then turn f (i + 1) (j - 1) (swap l i j) else l

def back (u : Int) (tgt : Nat) (s : St) : List Int := u :: chase s.par (s.q.length + 1) (s.par tgt)

/-- The walk that the search answers where it reached its goal. -/
def walk (u : Int) (tgt : Nat) (s : St) : List Int :=
  let l := back u tgt s
  turn l.length 1 (l.length - 1) l

theorem swap_len (l : List Int) (i j : Nat) : (swap l i j).length = l.length := by simp [swap]

theorem turn_len : ∀ f i j l, (turn f i j l).length = l.length := by
  intro f
  induction f with
  | zero => intros; rfl
  | succ f ih =>
    intro i j l
    unfold turn
    split
    · rw [ih, swap_len]
    · rfl

end Go.Proofs.Qxb6600624a.Plain
