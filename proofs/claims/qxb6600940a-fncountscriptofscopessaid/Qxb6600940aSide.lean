/-
  DERIVED. Build: the rows of one kind of key, and the two index maps.
-/
import Derived.Test.Qxb6600940aDict
import Derived.Deep.AppendLies
namespace Go.Proofs.Qxb6600940a
open Go.RowKit Go.Maps

def mtag (o k : Nat) : Nat := 8 * (k + 1) + o
def ptrB (bp : Nat → Nat) (i : Nat) : Value := .pointer (some ⟨bp i, 0, none⟩)
def intV (z : Int) : Value := .int .i64 z
def nilV : Value := .slice none 0 0

/-- The rows of one kind of key (tags o .. o + 3, and a row of bundles a key). -/
structure Side {κ : Type} (F : Nat → Row) (o : Nat) (ke : TypeId) (ks : Nat) (kc : κ → List Value) (bp : Nat → Nat) (v0 v1 v2 v3 : Value) (K : List κ) (M : κ → List Nat) (dl : κ → Int) : Prop where
  keys : F o = ⟨ke, ks, v0, K.length, K.flatMap kc⟩
  mems : F (o + 1) = ⟨58, 1, v1, K.length, (List.range K.length).map (fun k => (F (mtag o k)).v)⟩
  deals : F (o + 2) = ⟨3, 1, v2, K.length, K.map (fun t => intV (dl t))⟩
  empty : ∃ es : List Int, F (o + 3) = ⟨3, 1, v3, K.length, es.map intV⟩ ∧ es.length = K.length
  mem : ∀ k t, K[k]? = some t → ∃ v, F (mtag o k) = ⟨45, 1, v, (M t).length, (M t).map (ptrB bp)⟩
  rest : ∀ k, K.length ≤ k → F (mtag o k) = nilRow 45 1

section
variable {κ : Type} {F : Nat → Row} {o : Nat} {ke : TypeId} {ks : Nat} {kc : κ → List Value} {bp : Nat → Nat} {v0 v1 v2 v3 : Value} {K : List κ} {M : κ → List Nat} {dl : κ → Int}

theorem Side.congr {F' : Nat → Row} (h : Side F o ke ks kc bp v0 v1 v2 v3 K M dl) (h0 : F' o = F o) (h1 : F' (o + 1) = F (o + 1)) (h2 : F' (o + 2) = F (o + 2)) (h3 : F' (o + 3) = F (o + 3)) (hm : ∀ k, F' (mtag o k) = F (mtag o k)) : Side F' o ke ks kc bp v0 v1 v2 v3 K M dl where
  keys := h0.trans h.keys
  mems := by rw [h1, h.mems]; simp only [hm]
  deals := h2.trans h.deals
  empty := by obtain ⟨es, he, hl⟩ := h.empty; exact ⟨es, h3.trans he, hl⟩
  mem k t hk := by rw [hm]; exact h.mem k t hk
  rest k hk := by rw [hm]; exact h.rest k hk

theorem upd_ne (F : Nat → Row) {t u : Nat} (r : Row) (h : u ≠ t) : upd F t r u = F u := upd_other F r h

/-- What the new key's four rows are. -/
def withKey (F : Nat → Row) (o : Nat) (ke : TypeId) (ks : Nat) (v0 v1 v2 v3 : Value) (n : Nat) (xs0 xs1 xs2 xs3 : List Value) : Nat → Row :=
  upd (upd (upd (upd F o ⟨ke, ks, v0, n, xs0⟩) (o + 1) ⟨58, 1, v1, n, xs1⟩) (o + 2) ⟨3, 1, v2, n, xs2⟩) (o + 3) ⟨3, 1, v3, n, xs3⟩

theorem Side.newKey (h : Side F o ke ks kc bp v0 v1 v2 v3 K M dl) (_ho : o < 5) (t : κ) (hM : M t = []) (hd : dl t = 0) (u0 u1 u2 u3 : Value) :
    Side (withKey F o ke ks u0 u1 u2 u3 (K.length + 1) ((F o).xs ++ kc t) ((F (o + 1)).xs ++ [nilV]) ((F (o + 2)).xs ++ [intV 0]) ((F (o + 3)).xs ++ [intV 0])) o ke ks kc bp u0 u1 u2 u3 (K ++ [t]) M dl := by
  have hn : (K ++ [t]).length = K.length + 1 := by simp
  have hmt : ∀ k, withKey F o ke ks u0 u1 u2 u3 (K.length + 1) ((F o).xs ++ kc t) ((F (o + 1)).xs ++ [nilV]) ((F (o + 2)).xs ++ [intV 0]) ((F (o + 3)).xs ++ [intV 0]) (mtag o k) = F (mtag o k) := fun k => by
    unfold withKey
    rw [upd_ne _ _ (by unfold mtag; omega), upd_ne _ _ (by unfold mtag; omega), upd_ne _ _ (by unfold mtag; omega), upd_ne _ _ (by unfold mtag; omega)]
  refine ⟨?_, ?_, ?_, ?_, ?_, ?_⟩
  · unfold withKey
    rw [upd_ne _ _ (by omega), upd_ne _ _ (by omega), upd_ne _ _ (by omega), upd_same, hn, h.keys, List.flatMap_append]
    simp
  · simp only [hmt]
    unfold withKey
    rw [upd_ne _ _ (by omega), upd_ne _ _ (by omega), upd_same, hn, h.mems, List.range_succ, List.map_append, List.map_cons, List.map_nil, h.rest K.length (Nat.le_refl _)]
    rfl
  · unfold withKey
    rw [upd_ne _ _ (by omega), upd_same, hn, h.deals, List.map_append, List.map_cons, List.map_nil, hd]
  · obtain ⟨es, he, hl⟩ := h.empty
    refine ⟨es ++ [0], ?_, by simp [hl]⟩
    unfold withKey
    rw [upd_same, hn, he, List.map_append]
    rfl
  · intro k t' hk
    rw [hmt]
    rcases Nat.lt_or_ge k K.length with hlt | hge
    · rw [List.getElem?_append_left hlt] at hk
      exact h.mem k t' hk
    · rw [List.getElem?_append_right hge] at hk
      have hk0 : k - K.length = 0 := by
        rcases Nat.eq_zero_or_pos (k - K.length) with h0 | h0
        · exact h0
        · rw [List.getElem?_eq_none (by simp only [List.length_cons, List.length_nil]; omega)] at hk; cases hk
      rw [hk0] at hk
      have : t = t' := by simpa using hk
      subst this
      refine ⟨nilV, ?_⟩
      rw [h.rest k hge, hM]
      rfl
  · intro k hk
    rw [hmt]
    exact h.rest k (by rw [hn] at hk; omega)

theorem idx_inj {K : List κ} (hK : K.Nodup) {k j : Nat} {t : κ} (h1 : K[k]? = some t) (h2 : K[j]? = some t) : k = j := by
  obtain ⟨hk, e1⟩ := List.getElem?_eq_some_iff.1 h1
  obtain ⟨hj, e2⟩ := List.getElem?_eq_some_iff.1 h2
  exact (List.getElem_inj hK).1 (e1.trans e2.symm)

theorem range_set {α : Type} (f g : Nat → α) (n k : Nat) (_hk : k < n) (hf : ∀ j, j ≠ k → g j = f j) : ((List.range n).map f).set k (g k) = (List.range n).map g := by
  refine List.ext_getElem (by simp) (fun j h1 h2 => ?_)
  rw [List.getElem_set]
  by_cases e : k = j
  · subst e; simp
  · rw [if_neg e]; simp; exact (hf j (Ne.symm e)).symm

theorem list_set {α : Type} {K : List κ} (hK : K.Nodup) {k : Nat} {t : κ} (hk : K[k]? = some t) (f g : κ → α) (hf : ∀ u, u ≠ t → g u = f u) : (K.map f).set k (g t) = K.map g := by
  refine List.ext_getElem (by simp) (fun j h1 h2 => ?_)
  rw [List.getElem_set]
  have hj : j < K.length := by simpa using h2
  by_cases e : k = j
  · subst e
    have : K[k] = t := by obtain ⟨_, e⟩ := List.getElem?_eq_some_iff.1 hk; exact e
    simp [this]
  · rw [if_neg e]
    simp only [List.getElem_map]
    refine (hf _ (fun e' => e ?_)).symm
    exact idx_inj hK hk (by rw [List.getElem?_eq_getElem hj, e'])

/-- One bundle more under key k. -/
theorem Side.push [DecidableEq κ] (h : Side F o ke ks kc bp v0 v1 v2 v3 K M dl) (_ho : o < 5) (hK : K.Nodup) {k : Nat} {t : κ} (hk : K[k]? = some t) (i : Nat) (u : Value) :
    Side (upd (upd F (mtag o k) ⟨45, 1, u, (M t).length + 1, (M t).map (ptrB bp) ++ [ptrB bp i]⟩) (o + 1) ⟨58, 1, v1, K.length, (F (o + 1)).xs.set k u⟩) o ke ks kc bp v0 v1 v2 v3 K (fun x => if x = t then M t ++ [i] else M x) dl := by
  have hlt : k < K.length := by obtain ⟨h, _⟩ := List.getElem?_eq_some_iff.1 hk; exact h
  have hne : ∀ j, mtag o j ≠ o + 1 := fun j => by unfold mtag; omega
  have hmj : ∀ j, j ≠ k → mtag o j ≠ mtag o k := fun j hj => by unfold mtag; omega
  refine ⟨?_, ?_, ?_, ?_, ?_, ?_⟩
  · rw [upd_ne _ _ (by omega), upd_ne _ _ (by unfold mtag; omega)]; exact h.keys
  · rw [upd_same, h.mems]
    congr 1
    refine Eq.trans ?_ (range_set (fun k => (F (mtag o k)).v) (fun k' => (upd (upd F (mtag o k) ⟨45, 1, u, (M t).length + 1, (M t).map (ptrB bp) ++ [ptrB bp i]⟩) (o + 1) ⟨58, 1, v1, K.length, ((List.range K.length).map (fun k => (F (mtag o k)).v)).set k u⟩ (mtag o k')).v) K.length k hlt (fun j hj => ?_))
    · rw [upd_ne _ _ (hne k), upd_same]
    · rw [upd_ne _ _ (hne j), upd_ne _ _ (hmj j hj)]
  · rw [upd_ne _ _ (by omega), upd_ne _ _ (by unfold mtag; omega)]; exact h.deals
  · obtain ⟨es, he, hl⟩ := h.empty
    refine ⟨es, ?_, hl⟩
    rw [upd_ne _ _ (by omega), upd_ne _ _ (by unfold mtag; omega)]; exact he
  · intro j t' hj
    rw [upd_ne _ _ (hne j)]
    by_cases e : j = k
    · subst e
      have : t' = t := Option.some.inj (hj.symm.trans hk)
      subst this
      refine ⟨u, ?_⟩
      rw [upd_same]
      simp
    · rw [upd_ne _ _ (hmj j e)]
      have : t' ≠ t := fun e' => e (idx_inj hK hj (by rw [e']; exact hk))
      simp only [if_neg this]
      exact h.mem j t' hj
  · intro j hj
    rw [upd_ne _ _ (hne j), upd_ne _ _ (hmj j (by omega))]
    exact h.rest j hj

theorem Side.deal [DecidableEq κ] (h : Side F o ke ks kc bp v0 v1 v2 v3 K M dl) (_ho : o < 5) (hK : K.Nodup) {k : Nat} {t : κ} (hk : K[k]? = some t) (d : Int) :
    Side (upd F (o + 2) ⟨3, 1, v2, K.length, (F (o + 2)).xs.set k (intV d)⟩) o ke ks kc bp v0 v1 v2 v3 K M (fun x => if x = t then d else dl x) := by
  refine ⟨?_, ?_, ?_, ?_, ?_, ?_⟩
  · rw [upd_ne _ _ (by omega)]; exact h.keys
  · rw [upd_ne _ _ (by omega), h.mems]
    congr 1
    refine List.map_congr_left (fun j _ => ?_)
    rw [upd_ne _ _ (by unfold mtag; omega)]
  · rw [upd_same, h.deals]
    congr 1
    refine Eq.trans ?_ (list_set hK hk (fun t => intV (dl t)) (fun x => intV (if x = t then d else dl x)) (fun u hu => by rw [if_neg hu]))
    rw [if_pos rfl]
  · obtain ⟨es, he, hl⟩ := h.empty
    exact ⟨es, by rw [upd_ne _ _ (by omega)]; exact he, hl⟩
  · intro j t' hj
    rw [upd_ne _ _ (by unfold mtag; omega)]; exact h.mem j t' hj
  · intro j hj
    rw [upd_ne _ _ (by unfold mtag; omega)]; exact h.rest j hj

theorem Side.void (h : Side F o ke ks kc bp v0 v1 v2 v3 K M dl) (_ho : o < 5) (k : Nat) (z : Int) :
    Side (upd F (o + 3) ⟨3, 1, v3, K.length, (F (o + 3)).xs.set k (intV z)⟩) o ke ks kc bp v0 v1 v2 v3 K M dl := by
  obtain ⟨es, he, hl⟩ := h.empty
  refine ⟨?_, ?_, ?_, ⟨es.set k z, ?_, by simp [hl]⟩, ?_, ?_⟩
  · rw [upd_ne _ _ (by omega)]; exact h.keys
  · rw [upd_ne _ _ (by omega), h.mems]
    congr 1
    refine List.map_congr_left (fun j _ => ?_)
    rw [upd_ne _ _ (by unfold mtag; omega)]
  · rw [upd_ne _ _ (by omega)]; exact h.deals
  · rw [upd_same, he, List.map_set]
  · intro j t' hj
    rw [upd_ne _ _ (by unfold mtag; omega)]; exact h.mem j t' hj
  · intro j hj
    rw [upd_ne _ _ (by unfold mtag; omega)]; exact h.rest j hj

theorem side_empty (o : Nat) (ke : TypeId) (ks : Nat) (kc : κ → List Value) (bp : Nat → Nat) (M : κ → List Nat) (dl : κ → Int) (h0 : F o = nilRow ke ks) (h1 : F (o + 1) = nilRow 58 1) (h2 : F (o + 2) = nilRow 3 1) (h3 : F (o + 3) = nilRow 3 1) (hr : ∀ k, F (mtag o k) = nilRow 45 1) :
    Side F o ke ks kc bp nilV nilV nilV nilV [] M dl :=
  ⟨h0, h1, h2, ⟨[], h3, rfl⟩, fun k t hk => by simp at hk, fun k _ => hr k⟩
end

section
variable {κ : Type} [DecidableEq κ]
/-- The place of a key. -/
def idx (K : List κ) (t : κ) : Nat := K.idxOf t
/-- Block b is the map of each key's place. -/
def IdxMap (w : World) (kt : TypeId) (b : Nat) (enc : κ → Value) (K : List κ) : Prop :=
  ∃ c f, MapIs Try.prog kt w b K.length c f ∧ ∀ t, f (enc t) = if t ∈ K then some (intV (idx K t : Nat)) else none

theorem IdxMap.of_block {w w' : World} {kt : TypeId} {b : Nat} {enc : κ → Value} {K : List κ} (h : IdxMap w kt b enc K) (e : w'.heap[b]? = w.heap[b]?) : IdxMap w' kt b enc K := by
  obtain ⟨c, f, hm, hf⟩ := h; exact ⟨c, f, hm.of_block e, hf⟩
theorem IdxMap.lt {w : World} {kt : TypeId} {b : Nat} {enc : κ → Value} {K : List κ} (h : IdxMap w kt b enc K) : b < w.heap.size := by
  obtain ⟨c, f, hm, hf⟩ := h; exact hm.lt
theorem idxMap_made (w : World) (kt : TypeId) (enc : κ → Value) : IdxMap (w.alloc (.map #[] 0)) kt w.heap.size enc [] :=
  ⟨0, fun _ => none, mapIs_made w _ _ (fun _ => rfl), fun t => by simp⟩

theorem IdxMap.look {w : World} {kt : TypeId} {b : Nat} {enc : κ → Value} {K : List κ} (h : IdxMap w kt b enc K) (hk : Keyed Try.prog kt) {mt et : TypeId} (ht : Try.prog.underlying mt = some (.map kt et)) (hz : ∀ w, (zeroValue et).run Try.prog w = .ok (.int .i64 0) w) (t : κ) (hl : ∃ l, keyOf Try.prog kt (enc t) = some l) :
    (Instr.lookup mt (.map (some b)) (enc t) true).run Try.prog w = .ok (.tuple #[.int .i64 (if t ∈ K then (idx K t : Int) else 0), .bool (decide (t ∈ K))]) w := by
  obtain ⟨c, f, hm, hf⟩ := h
  obtain ⟨l, hl⟩ := hl
  rw [hm.look_ok hk ht hz hl, hf t]
  by_cases e : t ∈ K
  · rw [if_pos e, if_pos e, decide_eq_true e]; rfl
  · rw [if_neg e, if_neg e, decide_eq_false e]; rfl

theorem IdxMap.put {w : World} {kt : TypeId} {b : Nat} {enc : κ → Value} {K : List κ} (h : IdxMap w kt b enc K) (hk : Keyed Try.prog kt) {mt et : TypeId} (ht : Try.prog.underlying mt = some (.map kt et)) (hinj : ∀ a b, enc a = enc b → a = b) (hn : K.length < maxLen) (t : κ) (hl : ∃ l, keyOf Try.prog kt (enc t) = some l) (hnt : t ∉ K) :
    ∃ w', (Instr.mapUpdate mt (.map (some b)) (enc t) (.int .i64 (K.length : Nat))).run Try.prog w = .ok () w' ∧ IdxMap w' kt b enc (K ++ [t]) ∧ w.mapTurned w' b := by
  classical
  obtain ⟨c, f, hm, hf⟩ := h
  obtain ⟨l, hl⟩ := hl
  obtain ⟨w', hr, hm', ht'⟩ := hm.put hk ht hn hl (v := .int .i64 (K.length : Nat)) (g := fun y => if y = enc t then some (.int .i64 (K.length : Nat)) else f y) (if_pos rfl) (fun y hy => if_neg hy)
  refine ⟨w', hr, ⟨_, _, by rw [List.length_append]; exact hm', fun u => ?_⟩, ht'⟩
  by_cases e : u = t
  · subst e
    rw [if_pos rfl, if_pos (by simp), idx, List.idxOf_append, if_neg hnt]
    simp [intV]
  · have hne : enc u ≠ enc t := fun e' => e (hinj _ _ e')
    simp only [if_neg hne]
    rw [hf u]
    by_cases hu : u ∈ K
    · rw [if_pos hu, if_pos (by simp [hu]), idx, idx, List.idxOf_append, if_pos hu]
    · rw [if_neg hu, if_neg (by simp [hu, e])]
end

def encT (t : ByteArray) : Value := .string t
def encS (s : ByteArray × ByteArray) : Value := .agg #[.string s.1, .string s.2]
def cellsT (t : ByteArray) : List Value := [.string t]
def cellsS (s : ByteArray × ByteArray) : List Value := [.string s.1, .string s.2]
theorem encT_inj (a b : ByteArray) (h : encT a = encT b) : a = b := by unfold encT at h; injection h
theorem encS_inj (a b : ByteArray × ByteArray) (h : encS a = encS b) : a = b := by
  unfold encS at h
  injection h with h
  have h0 := congrArg (fun x => x[0]?) h
  have h1 := congrArg (fun x => x[1]?) h
  simp at h0 h1
  exact Prod.ext h0 h1

/-- The world while the keys are gathered. -/
structure BS (W1 w : World) (F : Nat → Row) (KT : List ByteArray) (KS : List (ByteArray × ByteArray)) : Prop where
  low : Below W1.heap.size W1 w
  size : W1.heap.size + 2 ≤ w.heap.size
  mt : IdxMap w 9 W1.heap.size encT KT
  ms : IdxMap w 66 (W1.heap.size + 1) encS KS
  fam : Fam w (W1.heap.size + 2) F

section
variable {W1 w w' : World} {F : Nat → Row} {KT : List ByteArray} {KS : List (ByteArray × ByteArray)}

theorem BS.later (h : BS W1 w F KT KS) (hb : Below w.heap.size w w') : BS W1 w' F KT KS where
  low := h.low.trans (hb.mono (by have := h.size; omega))
  size := Nat.le_trans h.size hb.size
  mt := h.mt.of_block (hb.block _ h.mt.lt)
  ms := h.ms.of_block (hb.block _ h.ms.lt)
  fam := h.fam.keep (fun b _ hlt => hb.block b hlt)

theorem BS.grown (h : BS W1 w F KT KS) (t : Nat) (hg : w.grownBy w' (F t).v.ownBlock) (r : Row) (hr : w'.ownsRow (W1.heap.size + 2) r.e r.size r.v r.n r.xs) (hb : r.v.ownBlock = (F t).v.ownBlock ∨ r.v.ownBlock = some w.heap.size) : BS W1 w' (upd F t r) KT KS := by
  have hne : ∀ b, b < W1.heap.size + 2 → some b ≠ (F t).v.ownBlock := fun b hb e => by have := ((h.fam.own t).lt b e.symm).1; omega
  have hs := h.size
  refine ⟨h.low.trans ⟨hg.os, hg.tape, hg.output, hg.size, fun b hlt => hg.block b (by omega) (hne b (by omega))⟩, Nat.le_trans hs hg.size, h.mt.of_block (hg.block _ (by omega) (hne _ (by omega))), h.ms.of_block (hg.block _ (by omega) (hne _ (by omega))), h.fam.grown t hg r hr hb⟩

/-- What an append to the row t leaves. -/
theorem BS.pushed (h : BS W1 w F KT KS) (t : Nat) {r : Row} (hF : F t = r) (o : Obj) {w1 : World} {g cap n' : Nat} {xs' : List Value} (hown : w1.ownsRow (W1.heap.size + 2) r.e r.size (.slice (some ⟨g, 0, none⟩) n' cap) n' xs') (hgrow : (w.alloc o).grownBy w1 r.v.ownBlock) (hat : r.v.ownBlock = some g ∨ g = w.heap.size + 1) :
    BS W1 w1 (upd F t ⟨r.e, r.size, .slice (some ⟨g, 0, none⟩) n' cap, n', xs'⟩) KT KS := by
  subst hF
  have h1 := h.later ((Below.refl w.heap.size w).alloc (Nat.le_refl _) o)
  refine h1.grown t hgrow _ hown ?_
  rcases hat with hat | hat
  · left; rw [hat]; rfl
  · right
    show some g = some (w.heap.push o).size
    rw [Array.size_push, hat]

theorem BS.ownA (h : BS W1 w F KT KS) (t : Nat) {r : Row} (hF : F t = r) (o : Obj) : (w.alloc o).ownsRow (W1.heap.size + 2) r.e r.size r.v r.n r.xs := by
  subst hF
  exact (h.later ((Below.refl w.heap.size w).alloc (Nat.le_refl _) o)).fam.own t

theorem BS.store (h : BS W1 w F KT KS) (t : Nat) {r : Row} (hF : F t = r) (g n cap : Nat) (hv : r.v = .slice (some ⟨g, 0, none⟩) n cap) (hn : r.n = n) (j : Nat) (u : Value) :
    BS W1 (w.setCell ⟨g, j, none⟩ u) (upd F t ⟨r.e, r.size, r.v, r.n, r.xs.set j u⟩) KT KS := by
  subst hF
  have hg : W1.heap.size + 2 ≤ g := by
    have := ((h.fam.own t).lt g (by rw [hv]; rfl)).1; exact this
  have hsz : (w.setCell ⟨g, j, none⟩ u).heap.size = w.heap.size := by simp [World.setCell]
  have hoth : ∀ b, b < W1.heap.size + 2 → (w.setCell ⟨g, j, none⟩ u).heap[b]? = w.heap[b]? := fun b hb => Go.Deep.blk_setCell_other _ _ _ _ (by show b ≠ g; omega)
  refine ⟨h.low.trans ⟨rfl, rfl, rfl, by rw [hsz]; exact Nat.le_refl _, fun b hlt => hoth b (by omega)⟩, by rw [hsz]; exact h.size, h.mt.of_block (hoth _ (by omega)), h.ms.of_block (hoth _ (by omega)), h.fam.store t g n cap hv hn j u⟩

theorem turned_lt {b : Nat} (h : w.mapTurned w' b) : b < w.heap.size := by
  obtain ⟨es, clock, _, _, hb, _⟩ := h
  rcases Nat.lt_or_ge b w.heap.size with hlt | hge
  · exact hlt
  · rw [Array.getElem?_eq_none hge] at hb; cases hb
theorem turned_below {B b : Nat} (h : w.mapTurned w' b) (hb : B ≤ b) : Below B w w' :=
  ⟨h.grown.os, h.grown.tape, h.grown.output, h.grown.size, fun c hc => h.grown.block c (by have := turned_lt h; omega) (by simp; omega)⟩

theorem BS.putT (h : BS W1 w F KT KS) {K' : List ByteArray} (hm : IdxMap w' 9 W1.heap.size encT K') (ht : w.mapTurned w' W1.heap.size) : BS W1 w' F K' KS where
  low := h.low.trans (turned_below ht (Nat.le_refl _))
  size := Nat.le_trans h.size ht.grown.size
  mt := hm
  ms := h.ms.of_block (ht.grown.block _ h.ms.lt (by simp))
  fam := h.fam.keep (fun b hb hlt => ht.grown.block b hlt (by simp; omega))

theorem BS.putS (h : BS W1 w F KT KS) {K' : List (ByteArray × ByteArray)} (hm : IdxMap w' 66 (W1.heap.size + 1) encS K') (ht : w.mapTurned w' (W1.heap.size + 1)) : BS W1 w' F KT K' where
  low := h.low.trans (turned_below ht (by omega))
  size := Nat.le_trans h.size ht.grown.size
  mt := h.mt.of_block (ht.grown.block _ h.mt.lt (by simp))
  ms := hm
  fam := h.fam.keep (fun b hb hlt => ht.grown.block b hlt (by simp; omega))

/-- A row's cells. -/
theorem BS.row (h : BS W1 w F KT KS) (t : Nat) {r : Row} (hF : F t = r) (hn : 0 < r.n) : ∃ g cap, r.v = .slice (some ⟨g, 0, none⟩) r.n cap ∧ (∀ j, j < r.n * r.size → w.cell? ⟨g, j, none⟩ = r.xs[j]?) ∧ (∀ j, w.frozen? ⟨g, j, none⟩ = false) ∧ W1.heap.size + 2 ≤ g := by
  subst hF
  obtain ⟨g, cap, h1, h2, _, h3, h4⟩ := h.fam.slice t hn
  exact ⟨g, cap, h1, h3, h4, h2⟩
end

end Go.Proofs.Qxb6600940a
