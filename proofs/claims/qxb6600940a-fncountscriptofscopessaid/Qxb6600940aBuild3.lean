/-
  DERIVED. Build: the lists and the two maps of lists; what Build leaves.
-/
import Derived.Test.Qxb6600940aBuild2
namespace Go.Proofs.Qxb6600940a
open Go.RowKit Go.Maps

/-- Block lp is a list that holds the bundles M. -/
def ListOk (W2 w : World) (lo : Nat) (bp : Nat → Nat) (D : Nat → Int) (M : List Nat) (b lp : Nat) : Prop :=
  b < lp ∧ lp < w.heap.size ∧ ∃ g cap, lo ≤ g ∧ g < W2.heap.size ∧ w.cell? ⟨lp, 0, none⟩ = some (.slice (some ⟨g, 0, none⟩) M.length cap) ∧ w.cell? ⟨lp, 1, none⟩ = some (.int .i64 (wrap64 (dealsOf D M))) ∧ ∀ j, j < M.length → W2.cell? ⟨g, j, none⟩ = some (ptrB bp (M.getD j 0))

theorem ListOk.of_block {W2 w w' : World} {lo : Nat} {bp : Nat → Nat} {D : Nat → Int} {M : List Nat} {b lp : Nat} (h : ListOk W2 w lo bp D M b lp) (e : w'.heap[lp]? = w.heap[lp]?) (hs : w.heap.size ≤ w'.heap.size) : ListOk W2 w' lo bp D M b lp := by
  obtain ⟨h1, h2, g, cap, h3, h4, h5, h6, h7⟩ := h
  exact ⟨h1, by omega, g, cap, h3, h4, (World.cell?_of_block (a := ⟨lp, 0, none⟩) e).trans h5, (World.cell?_of_block (a := ⟨lp, 1, none⟩) e).trans h6, h7⟩

section
variable {κ : Type} [DecidableEq κ]
/-- Block b is the map of the lists of the keys K. -/
def ListMap (W2 w : World) (lo : Nat) (kt : TypeId) (b : Nat) (enc : κ → Value) (bp : Nat → Nat) (D : Nat → Int) (Q : List (κ × Nat)) (K : List κ) : Prop :=
  ∃ (l : κ → Nat) (c : Nat) (f : Value → Option Value), MapIs Try.prog kt w b K.length c f ∧ (∀ t, f (enc t) = if t ∈ K then some (.pointer (some ⟨l t, 0, none⟩)) else none) ∧ ∀ t, t ∈ K → ListOk W2 w lo bp D (memOf Q t) b (l t)

theorem listMap_made (w : World) (lo : Nat) (kt : TypeId) (enc : κ → Value) (bp : Nat → Nat) (D : Nat → Int) (Q : List (κ × Nat)) : ListMap w (w.alloc (.map #[] 0)) lo kt w.heap.size enc bp D Q [] :=
  ⟨fun _ => 0, 0, fun _ => none, mapIs_made w _ _ (fun _ => rfl), fun t => by simp, fun t h => by simp at h⟩

theorem ListMap.later {W2 w w' : World} {lo : Nat} {kt : TypeId} {b : Nat} {enc : κ → Value} {bp : Nat → Nat} {D : Nat → Int} {Q : List (κ × Nat)} {K : List κ} (h : ListMap W2 w lo kt b enc bp D Q K) (hb : Below w.heap.size w w') : ListMap W2 w' lo kt b enc bp D Q K := by
  obtain ⟨l, c, f, h1, h2, h3⟩ := h
  exact ⟨l, c, f, h1.of_block (hb.block _ h1.lt), h2, fun t ht => (h3 t ht).of_block (hb.block _ (h3 t ht).2.1) hb.size⟩

theorem ListMap.put {W2 w : World} {lo : Nat} {kt : TypeId} {b : Nat} {enc : κ → Value} {bp : Nat → Nat} {D : Nat → Int} {Q : List (κ × Nat)} {K : List κ} (h : ListMap W2 w lo kt b enc bp D Q K) (hk : Keyed Try.prog kt) {mt et : TypeId} (ht : Try.prog.underlying mt = some (.map kt et)) (hinj : ∀ a b, enc a = enc b → a = b) (hn : K.length < maxLen) (t : κ) (hl : ∃ l, keyOf Try.prog kt (enc t) = some l) (hnt : t ∉ K) (lp : Nat) (hok : ListOk W2 w lo bp D (memOf Q t) b lp) :
    ∃ w', (Instr.mapUpdate mt (.map (some b)) (enc t) (.pointer (some ⟨lp, 0, none⟩))).run Try.prog w = .ok () w' ∧ ListMap W2 w' lo kt b enc bp D Q (K ++ [t]) ∧ w.mapTurned w' b := by
  classical
  obtain ⟨l, c, f, hm, hf, hL⟩ := h
  obtain ⟨kl, hl⟩ := hl
  obtain ⟨w', hr, hm', ht'⟩ := hm.put hk ht hn hl (v := .pointer (some ⟨lp, 0, none⟩)) (g := fun y => if y = enc t then some (.pointer (some ⟨lp, 0, none⟩)) else f y) (if_pos rfl) (fun y hy => if_neg hy)
  have hblk : ∀ {q}, b < q → q < w.heap.size → w'.heap[q]? = w.heap[q]? := fun {q} h1 h2 => ht'.grown.block q h2 (by simp; omega)
  refine ⟨w', hr, ⟨fun u => if u = t then lp else l u, _, _, by rw [List.length_append]; exact hm', fun u => ?_, fun u hu => ?_⟩, ht'⟩
  · by_cases e : u = t
    · subst e
      rw [if_pos rfl, if_pos (by simp)]
      simp only [if_true]
    · have hne : enc u ≠ enc t := fun e' => e (hinj _ _ e')
      simp only [if_neg hne, if_neg e]
      rw [hf u]
      by_cases hu : u ∈ K
      · rw [if_pos hu, if_pos (by simp [hu])]
      · rw [if_neg hu, if_neg (by simp [hu, e])]
  · by_cases e : u = t
    · subst e
      simp only [if_true]
      exact hok.of_block (hblk hok.1 hok.2.1) ht'.grown.size
    · simp only [if_neg e]
      have hu' : u ∈ K := by simpa [e] using hu
      exact (hL u hu').of_block (hblk (hL u hu').1 (hL u hu').2.1) ht'.grown.size
end

/-- A new list of key t. -/
theorem listOk_new {W2 w w0 : World} {lo g cap b : Nat} {bp : Nat → Nat} {D : Nat → Int} {M : List Nat} {z : Int} (hw : w0.heap = (w.alloc (.cells (listCells (some ⟨g, 0, none⟩) M.length cap (wrap64 (dealsOf D M)) z) 75)).heap) (hb : b < w.heap.size) (hlo : lo ≤ g) (hg : g < W2.heap.size) (hr : ∀ j, j < M.length → W2.cell? ⟨g, j, none⟩ = some (ptrB bp (M.getD j 0))) :
    ListOk W2 w0 lo bp D M b w.heap.size := by
  have hrow := (World.rowIs_alloc w (listCells (some ⟨g, 0, none⟩) M.length cap (wrap64 (dealsOf D M)) z) 75 (fun i => if i = 0 then .slice (some ⟨g, 0, none⟩) M.length cap else if i = 1 then .int .i64 (wrap64 (dealsOf D M)) else .int .i64 z) (fun i hi => by
    have hi' : i < 3 := hi
    have : i = 0 ∨ i = 1 ∨ i = 2 := by omega
    rcases this with rfl | rfl | rfl <;> rfl))
  have hrow' := hrow.of_block (w' := w0) (by rw [hw])
  exact ⟨hb, hrow'.lt, g, cap, hlo, hg, hrow'.cell (i := 0) (by show 0 < 3; omega), hrow'.cell (i := 1) (by show 1 < 3; omega), hr⟩

section
variable {W1 w : World} {bp : Nat → Nat} {Dn : Nat → Int} {QT : List (ByteArray × Nat)} {QS : List ((ByteArray × ByteArray) × Nat)} {a0 a1 a2 a3 b0 b1 b2 b3 : Value}

theorem flat2 {K : List (ByteArray × ByteArray)} : ∀ {k : Nat} {t : ByteArray × ByteArray}, K[k]? = some t → (K.flatMap cellsS)[k * 2]? = some (.string t.1) ∧ (K.flatMap cellsS)[k * 2 + 1]? = some (.string t.2) := by
  induction K with
  | nil => intro k t h; simp at h
  | cons u K ih =>
    intro k t h
    cases k with
    | zero =>
      have : u = t := by simpa using h
      subst this
      simp [cellsS]
    | succ k =>
      have h' : K[k]? = some t := by simpa using h
      have := ih h'
      rw [List.flatMap_cons]
      have e1 : (k + 1) * 2 = k * 2 + 1 + 1 := by omega
      rw [e1]
      simpa [cellsS] using this
theorem flat1 {K : List ByteArray} : ∀ {k : Nat} {t : ByteArray}, K[k]? = some t → (K.flatMap cellsT)[k]? = some (.string t) := by
  induction K with
  | nil => intro k t h; simp at h
  | cons u K ih =>
    intro k t h
    cases k with
    | zero =>
      have : u = t := by simpa using h
      subst this
      simp [cellsT]
    | succ k =>
      have h' : K[k]? = some t := by simpa using h
      have := ih h'
      rw [List.flatMap_cons]
      simpa [cellsT] using this

/-- What loop 4 reads at key k, in the rows (o: the side). -/
theorem side_read {κ : Type} [DecidableEq κ] {F : Nat → Row} {KT : List ByteArray} {KS : List (ByteArray × ByteArray)} {o : Nat} {ke : TypeId} {ks : Nat} {kc : κ → List Value} {v0 v1 v2 v3 : Value} {K : List κ} {M : κ → List Nat} {dl : κ → Int} (hS : Side F o ke ks kc bp v0 v1 v2 v3 K M dl) (hB : BS W1 w F KT KS) {k : Nat} {t : κ} (hk : K[k]? = some t) (hM : 0 < (M t).length) :
    ∃ g0 c0 g1 c1 g2 c2 g3 c3 gm cm z, v0 = .slice (some ⟨g0, 0, none⟩) K.length c0 ∧ v1 = .slice (some ⟨g1, 0, none⟩) K.length c1 ∧ v2 = .slice (some ⟨g2, 0, none⟩) K.length c2 ∧ v3 = .slice (some ⟨g3, 0, none⟩) K.length c3 ∧
      (∀ j, j < K.length * ks → w.cell? ⟨g0, j, none⟩ = (K.flatMap kc)[j]?) ∧ w.cell? ⟨g1, k, none⟩ = some (.slice (some ⟨gm, 0, none⟩) (M t).length cm) ∧ w.cell? ⟨g2, k, none⟩ = some (.int .i64 (dl t)) ∧ w.cell? ⟨g3, k, none⟩ = some (.int .i64 z) ∧
      W1.heap.size + 2 ≤ gm ∧ gm < w.heap.size ∧ ∀ j, j < (M t).length → w.cell? ⟨gm, j, none⟩ = some (ptrB bp ((M t).getD j 0)) := by
  have hlt := get_lt hk
  have hpos : 0 < K.length := by omega
  obtain ⟨g0, c0, e0, r0, _, _⟩ := hB.row o hS.keys hpos
  obtain ⟨g1, c1, e1, r1, _, _⟩ := hB.row (o + 1) hS.mems hpos
  obtain ⟨g2, c2, e2, r2, _, _⟩ := hB.row (o + 2) hS.deals hpos
  obtain ⟨es, he, hl⟩ := hS.empty
  obtain ⟨g3, c3, e3, r3, _, _⟩ := hB.row (o + 3) he hpos
  obtain ⟨v, hm⟩ := hS.mem k t hk
  obtain ⟨gm, cm, em, rm, _, hgm⟩ := hB.row (mtag o k) hm hM
  simp only at e0 e1 e2 e3 em r0 r1 r2 r3 rm
  have hc0 : ∀ j, j < (M t).length → w.cell? ⟨gm, j, none⟩ = some (ptrB bp ((M t).getD j 0)) := fun j hj => by
    rw [rm j (by omega), List.getElem?_map, List.getD_eq_getElem?_getD, List.getElem?_eq_getElem hj]; rfl
  refine ⟨g0, c0, g1, c1, g2, c2, g3, c3, gm, cm, es.getD k 0, e0, e1, e2, e3, r0, ?_, ?_, ?_, hgm, World.block_lt_of_cell? _ _ (hc0 0 hM), hc0⟩
  · rw [r1 k (by omega), List.getElem?_map, List.getElem?_range hlt, Option.map_some, hm, em]
  · rw [r2 k (by omega), List.getElem?_map, hk]; rfl
  · rw [r3 k (by omega), List.getElem?_map, List.getElem?_eq_getElem (by omega), List.getD_eq_getElem?_getD, List.getElem?_eq_getElem (by omega)]; rfl

theorem key_len {κ : Type} [DecidableEq κ] {Q : List (κ × Nat)} {k : Nat} {t : κ} (hk : (keysOf Q)[k]? = some t) : 0 < (memOf Q t).length := by
  have : t ∈ keysOf Q := List.mem_of_getElem? hk
  exact List.length_pos_iff.2 ((mem_keysOf Q t).1 this)

theorem Gath.readT (h : Gath W1 w bp Dn QT QS a0 a1 a2 a3 b0 b1 b2 b3) {k : Nat} {t : ByteArray} (hk : (keysOf QT)[k]? = some t) :
    ∃ g0 c0 g1 c1 g2 c2 g3 c3 gm cm z, a0 = .slice (some ⟨g0, 0, none⟩) (keysOf QT).length c0 ∧ a1 = .slice (some ⟨g1, 0, none⟩) (keysOf QT).length c1 ∧ a2 = .slice (some ⟨g2, 0, none⟩) (keysOf QT).length c2 ∧ a3 = .slice (some ⟨g3, 0, none⟩) (keysOf QT).length c3 ∧
      w.cell? ⟨g0, k, none⟩ = some (.string t) ∧ w.cell? ⟨g1, k, none⟩ = some (.slice (some ⟨gm, 0, none⟩) (memOf QT t).length cm) ∧ w.cell? ⟨g2, k, none⟩ = some (.int .i64 (dlOf Dn QT t)) ∧ w.cell? ⟨g3, k, none⟩ = some (.int .i64 z) ∧
      W1.heap.size + 2 ≤ gm ∧ gm < w.heap.size ∧ ∀ j, j < (memOf QT t).length → w.cell? ⟨gm, j, none⟩ = some (ptrB bp ((memOf QT t).getD j 0)) := by
  obtain ⟨F, hB, hT, hS⟩ := h
  obtain ⟨g0, c0, g1, c1, g2, c2, g3, c3, gm, cm, z, e0, e1, e2, e3, r0, r1, r2, r3, hm⟩ := side_read hT hB hk (key_len hk)
  exact ⟨g0, c0, g1, c1, g2, c2, g3, c3, gm, cm, z, e0, e1, e2, e3, by rw [r0 k (by have := get_lt hk; omega)]; exact flat1 hk, r1, r2, r3, hm⟩
theorem Gath.readS (h : Gath W1 w bp Dn QT QS a0 a1 a2 a3 b0 b1 b2 b3) {k : Nat} {t : ByteArray × ByteArray} (hk : (keysOf QS)[k]? = some t) :
    ∃ g0 c0 g1 c1 g2 c2 g3 c3 gm cm z, b0 = .slice (some ⟨g0, 0, none⟩) (keysOf QS).length c0 ∧ b1 = .slice (some ⟨g1, 0, none⟩) (keysOf QS).length c1 ∧ b2 = .slice (some ⟨g2, 0, none⟩) (keysOf QS).length c2 ∧ b3 = .slice (some ⟨g3, 0, none⟩) (keysOf QS).length c3 ∧
      (w.cell? ⟨g0, k * 2, none⟩ = some (.string t.1) ∧ w.cell? ⟨g0, k * 2 + 1, none⟩ = some (.string t.2)) ∧ w.cell? ⟨g1, k, none⟩ = some (.slice (some ⟨gm, 0, none⟩) (memOf QS t).length cm) ∧ w.cell? ⟨g2, k, none⟩ = some (.int .i64 (dlOf Dn QS t)) ∧ w.cell? ⟨g3, k, none⟩ = some (.int .i64 z) ∧
      W1.heap.size + 2 ≤ gm ∧ gm < w.heap.size ∧ ∀ j, j < (memOf QS t).length → w.cell? ⟨gm, j, none⟩ = some (ptrB bp ((memOf QS t).getD j 0)) := by
  obtain ⟨F, hB, hT, hS⟩ := h
  obtain ⟨g0, c0, g1, c1, g2, c2, g3, c3, gm, cm, z, e0, e1, e2, e3, r0, r1, r2, r3, hm⟩ := side_read hS hB hk (key_len hk)
  have hlt := get_lt hk
  exact ⟨g0, c0, g1, c1, g2, c2, g3, c3, gm, cm, z, e0, e1, e2, e3, ⟨by rw [r0 (k * 2) (by omega)]; exact (flat2 hk).1, by rw [r0 (k * 2 + 1) (by omega)]; exact (flat2 hk).2⟩, r1, r2, r3, hm⟩
end

theorem take_succ_get {κ : Type} {K : List κ} {k : Nat} {t : κ} (hk : K[k]? = some t) : K.take (k + 1) = K.take k ++ [t] := by
  obtain ⟨h, e⟩ := List.getElem?_eq_some_iff.1 hk
  rw [List.take_succ_eq_append_getElem h, e]
theorem not_mem_take {κ : Type} {K : List κ} (hK : K.Nodup) {k : Nat} {t : κ} (hk : K[k]? = some t) : t ∉ K.take k := fun h => by
  obtain ⟨j, hj, e⟩ := List.getElem_of_mem h
  have hj' : j < k ∧ j < K.length := by rw [List.length_take] at hj; omega
  rw [List.getElem_take] at e
  have h2 : K[j]? = some t := by rw [List.getElem?_eq_getElem hj'.2, e]
  have := idx_inj hK hk h2
  omega

end Go.Proofs.Qxb6600940a
