/-
  DERIVED. Build: one bundle more under a key.
-/
import Derived.Test.Qxb6600940aBuild0
namespace Go.Proofs.Qxb6600940a
open Go.RowKit Go.Maps

section
variable {κ : Type} [DecidableEq κ] {W1 w : World} {F : Nat → Row} {KT : List ByteArray} {KS : List (ByteArray × ByteArray)} {o : Nat} {ke : TypeId} {ks : Nat} {kc : κ → List Value} {bp : Nat → Nat} {v0 v1 v2 v3 : Value} {K : List κ} {M : κ → List Nat} {dl : κ → Int}

omit [DecidableEq κ] in
theorem get_lt {K : List κ} {k : Nat} {t : κ} (hk : K[k]? = some t) : k < K.length := by obtain ⟨h, _⟩ := List.getElem?_eq_some_iff.1 hk; exact h

theorem slice_of_own {w : World} {B : Nat} {e : TypeId} {size n : Nat} {v : Value} {xs : List Value} (h : w.ownsRow B e size v n xs) : ∃ la lc, v = .slice la n lc := by
  rcases h.2 with ⟨rfl, rfl⟩ | ⟨g, cap, cur, rfl, _⟩
  · exact ⟨_, _, rfl⟩
  · exact ⟨_, _, rfl⟩

theorem side_push (hS : Side F o ke ks kc bp v0 v1 v2 v3 K M dl) (hB : BS W1 w F KT KS) (ho : o < 5) (hK : K.Nodup) {k : Nat} {t : κ} (hk : K[k]? = some t) (i : Nat) :
    ∃ g1 cap1 la lm lc, v1 = .slice (some ⟨g1, 0, none⟩) K.length cap1 ∧ w.cell? ⟨g1, k, none⟩ = some (.slice la lm lc) ∧ w.frozen? ⟨g1, k, none⟩ = false ∧ W1.heap.size + 2 ≤ g1 ∧ g1 < w.heap.size ∧ lm = (M t).length ∧
      (∀ ob, (w.alloc ob).ownsRow (W1.heap.size + 2) 45 1 (.slice la lm lc) lm ((M t).map (ptrB bp))) ∧ some g1 ≠ (Value.slice la lm lc).ownBlock ∧
      ∀ ob w1 g cap, w1.ownsRow (W1.heap.size + 2) 45 1 (.slice (some ⟨g, 0, none⟩) (lm + 1) cap) (lm + 1) ((M t).map (ptrB bp) ++ [ptrB bp i]) → (w.alloc ob).grownBy w1 (Value.slice la lm lc).ownBlock → ((Value.slice la lm lc).ownBlock = some g ∨ g = w.heap.size + 1) →
        ∃ F', BS W1 (w1.setCell ⟨g1, k, none⟩ (.slice (some ⟨g, 0, none⟩) (lm + 1) cap)) F' KT KS ∧ Side F' o ke ks kc bp v0 v1 v2 v3 K (fun x => if x = t then M t ++ [i] else M x) dl ∧ ∀ u, u ≠ o + 1 → u ≠ mtag o k → F' u = F u := by
  have hlt := get_lt hk
  obtain ⟨g1, cap1, hv1, hc1, hf1, hg1⟩ := hB.row (o + 1) hS.mems (by show 0 < K.length; omega)
  simp only at hv1 hc1
  obtain ⟨v, hm⟩ := hS.mem k t hk
  have hown := hB.fam.own (mtag o k)
  rw [hm] at hown
  simp only at hown
  obtain ⟨la, lc, rfl⟩ := slice_of_own hown
  have hcell : w.cell? ⟨g1, k, none⟩ = some (.slice la (M t).length lc) := by
    rw [hc1 k (by omega), List.getElem?_map, List.getElem?_range hlt, Option.map_some, hm]
  have hne1 : mtag o k ≠ o + 1 := by unfold mtag; omega
  have hap : some g1 ≠ (Value.slice la (M t).length lc).ownBlock := by
    have := hB.fam.apart (o + 1) (mtag o k) g1 (Ne.symm hne1) (by rw [hS.mems]; show Value.ownBlock v1 = _; rw [hv1]; rfl)
    rw [hm] at this
    exact fun e => this e.symm
  refine ⟨g1, cap1, la, _, lc, hv1, hcell, hf1 k, hg1, World.block_lt_of_cell? _ _ hcell, rfl, fun ob => ?_, hap, fun ob w1 g cap ho1 hgr hat => ?_⟩
  · exact hB.ownA (mtag o k) hm ob
  · have h1 := hB.pushed (mtag o k) hm ob ho1 hgr hat
    have h2 := h1.store (o + 1) (r := ⟨58, 1, v1, K.length, (F (o + 1)).xs⟩) (by rw [upd_ne _ _ (Ne.symm hne1), hS.mems]) g1 K.length cap1 hv1 rfl k (.slice (some ⟨g, 0, none⟩) ((M t).length + 1) cap)
    refine ⟨_, h2, Side.push hS ho hK hk i _, fun u hu1 hu2 => ?_⟩
    rw [upd_ne _ _ hu1, upd_ne _ _ hu2]

theorem side_deal (hS : Side F o ke ks kc bp v0 v1 v2 v3 K M dl) (hB : BS W1 w F KT KS) (ho : o < 5) (hK : K.Nodup) {k : Nat} {t : κ} (hk : K[k]? = some t) (d : Int) :
    ∃ g2 cap2, v2 = .slice (some ⟨g2, 0, none⟩) K.length cap2 ∧ w.cell? ⟨g2, k, none⟩ = some (.int .i64 (dl t)) ∧ w.frozen? ⟨g2, k, none⟩ = false ∧ W1.heap.size + 2 ≤ g2 ∧
      ∃ F', BS W1 (w.setCell ⟨g2, k, none⟩ (.int .i64 d)) F' KT KS ∧ Side F' o ke ks kc bp v0 v1 v2 v3 K M (fun x => if x = t then d else dl x) ∧ ∀ u, u ≠ o + 2 → F' u = F u := by
  have hlt := get_lt hk
  obtain ⟨g2, cap2, hv2, hc2, hf2, hg2⟩ := hB.row (o + 2) hS.deals (by show 0 < K.length; omega)
  simp only at hv2 hc2
  refine ⟨g2, cap2, hv2, ?_, hf2 k, hg2, ?_⟩
  · rw [hc2 k (by omega), List.getElem?_map, hk]; rfl
  · have h2 := hB.store (o + 2) (r := ⟨3, 1, v2, K.length, (F (o + 2)).xs⟩) (by rw [hS.deals]) g2 K.length cap2 hv2 rfl k (.int .i64 d)
    exact ⟨_, h2, Side.deal hS ho hK hk d, fun u hu => upd_ne _ _ hu⟩

omit [DecidableEq κ] in
theorem side_void (hS : Side F o ke ks kc bp v0 v1 v2 v3 K M dl) (hB : BS W1 w F KT KS) (ho : o < 5) {k : Nat} (hlt : k < K.length) :
    ∃ g3 cap3 z, v3 = .slice (some ⟨g3, 0, none⟩) K.length cap3 ∧ w.cell? ⟨g3, k, none⟩ = some (.int .i64 z) ∧ w.frozen? ⟨g3, k, none⟩ = false ∧ W1.heap.size + 2 ≤ g3 ∧
      ∀ z', ∃ F', BS W1 (w.setCell ⟨g3, k, none⟩ (.int .i64 z')) F' KT KS ∧ Side F' o ke ks kc bp v0 v1 v2 v3 K M dl ∧ ∀ u, u ≠ o + 3 → F' u = F u := by
  obtain ⟨es, he, hl⟩ := hS.empty
  obtain ⟨g3, cap3, hv3, hc3, hf3, hg3⟩ := hB.row (o + 3) he (by show 0 < K.length; omega)
  simp only at hv3 hc3
  refine ⟨g3, cap3, es.getD k 0, hv3, ?_, hf3 k, hg3, fun z' => ?_⟩
  · rw [hc3 k (by omega), List.getElem?_map, List.getElem?_eq_getElem (by omega), List.getD_eq_getElem?_getD, List.getElem?_eq_getElem (by omega)]; rfl
  · have h2 := hB.store (o + 3) (r := ⟨3, 1, v3, K.length, (F (o + 3)).xs⟩) (by rw [he]) g3 K.length cap3 hv3 rfl k (.int .i64 z')
    exact ⟨_, h2, Side.void hS ho k z', fun u hu => upd_ne _ _ hu⟩
end

section
variable {W1 w w' : World} {bp : Nat → Nat} {Dn : Nat → Int} {QT : List (ByteArray × Nat)} {QS : List ((ByteArray × ByteArray) × Nat)} {a0 a1 a2 a3 b0 b1 b2 b3 : Value}

/-- The bundle stands under t; its deals are not yet added. -/
def GathTP (W1 w : World) (bp : Nat → Nat) (Dn : Nat → Int) (QT : List (ByteArray × Nat)) (QS : List ((ByteArray × ByteArray) × Nat)) (a0 a1 a2 a3 b0 b1 b2 b3 : Value) (t : ByteArray) (k i : Nat) : Prop :=
  ∃ F, (addKey (keysOf QT) t)[k]? = some t ∧ BS W1 w F (addKey (keysOf QT) t) (keysOf QS) ∧ TS F bp a0 a1 a2 a3 (addKey (keysOf QT) t) (memOf (QT ++ [(t, i)])) (dlOf Dn QT) ∧ SS F bp b0 b1 b2 b3 (keysOf QS) (memOf QS) (dlOf Dn QS)
def GathSP (W1 w : World) (bp : Nat → Nat) (Dn : Nat → Int) (QT : List (ByteArray × Nat)) (QS : List ((ByteArray × ByteArray) × Nat)) (a0 a1 a2 a3 b0 b1 b2 b3 : Value) (t : ByteArray × ByteArray) (k i : Nat) : Prop :=
  ∃ F, (addKey (keysOf QS) t)[k]? = some t ∧ BS W1 w F (keysOf QT) (addKey (keysOf QS) t) ∧ TS F bp a0 a1 a2 a3 (keysOf QT) (memOf QT) (dlOf Dn QT) ∧ SS F bp b0 b1 b2 b3 (addKey (keysOf QS) t) (memOf (QS ++ [(t, i)])) (dlOf Dn QS)

theorem GathT.push {t : ByteArray} {k : Nat} (h : GathT W1 w bp Dn QT QS a0 a1 a2 a3 b0 b1 b2 b3 t k) (i : Nat) :
    ∃ g1 cap1 la lm lc, a1 = .slice (some ⟨g1, 0, none⟩) (addKey (keysOf QT) t).length cap1 ∧ k < (addKey (keysOf QT) t).length ∧ w.cell? ⟨g1, k, none⟩ = some (.slice la lm lc) ∧ w.frozen? ⟨g1, k, none⟩ = false ∧ W1.heap.size + 2 ≤ g1 ∧ g1 < w.heap.size ∧ lm ≤ QT.length ∧
      (∀ ob, (w.alloc ob).ownsRow (W1.heap.size + 2) 45 1 (.slice la lm lc) lm ((memOf QT t).map (ptrB bp))) ∧ some g1 ≠ (Value.slice la lm lc).ownBlock ∧
      ∀ ob w1 g cap, w1.ownsRow (W1.heap.size + 2) 45 1 (.slice (some ⟨g, 0, none⟩) (lm + 1) cap) (lm + 1) ((memOf QT t).map (ptrB bp) ++ [ptrB bp i]) → (w.alloc ob).grownBy w1 (Value.slice la lm lc).ownBlock → ((Value.slice la lm lc).ownBlock = some g ∨ g = w.heap.size + 1) →
        GathTP W1 (w1.setCell ⟨g1, k, none⟩ (.slice (some ⟨g, 0, none⟩) (lm + 1) cap)) bp Dn QT QS a0 a1 a2 a3 b0 b1 b2 b3 t k i := by
  obtain ⟨F, hk, hB, hT, hS⟩ := h
  obtain ⟨g1, cap1, la, lm, lc, e1, e2, e3, e4, e5, e6, e7, e8, e9⟩ := side_push hT hB (by omega) (nodup_addKey (nodup_keysOf QT) t) hk i
  refine ⟨g1, cap1, la, lm, lc, e1, get_lt hk, e2, e3, e4, e5, by rw [e6]; exact memOf_len QT t, e7, e8, fun ob w1 g cap p1 p2 p3 => ?_⟩
  obtain ⟨F', hB', hT', hoth⟩ := e9 ob w1 g cap p1 p2 p3
  refine ⟨F', hk, hB', by rw [memOf_snoc]; exact hT', Side.congr hS (hoth _ (by omega) (by unfold mtag; omega)) (hoth _ (by omega) (by unfold mtag; omega)) (hoth _ (by omega) (by unfold mtag; omega)) (hoth _ (by omega) (by unfold mtag; omega)) (fun j => hoth _ (by unfold mtag; omega) (by unfold mtag; omega))⟩

theorem GathS.push {t : ByteArray × ByteArray} {k : Nat} (h : GathS W1 w bp Dn QT QS a0 a1 a2 a3 b0 b1 b2 b3 t k) (i : Nat) :
    ∃ g1 cap1 la lm lc, b1 = .slice (some ⟨g1, 0, none⟩) (addKey (keysOf QS) t).length cap1 ∧ k < (addKey (keysOf QS) t).length ∧ w.cell? ⟨g1, k, none⟩ = some (.slice la lm lc) ∧ w.frozen? ⟨g1, k, none⟩ = false ∧ W1.heap.size + 2 ≤ g1 ∧ g1 < w.heap.size ∧ lm ≤ QS.length ∧
      (∀ ob, (w.alloc ob).ownsRow (W1.heap.size + 2) 45 1 (.slice la lm lc) lm ((memOf QS t).map (ptrB bp))) ∧ some g1 ≠ (Value.slice la lm lc).ownBlock ∧
      ∀ ob w1 g cap, w1.ownsRow (W1.heap.size + 2) 45 1 (.slice (some ⟨g, 0, none⟩) (lm + 1) cap) (lm + 1) ((memOf QS t).map (ptrB bp) ++ [ptrB bp i]) → (w.alloc ob).grownBy w1 (Value.slice la lm lc).ownBlock → ((Value.slice la lm lc).ownBlock = some g ∨ g = w.heap.size + 1) →
        GathSP W1 (w1.setCell ⟨g1, k, none⟩ (.slice (some ⟨g, 0, none⟩) (lm + 1) cap)) bp Dn QT QS a0 a1 a2 a3 b0 b1 b2 b3 t k i := by
  obtain ⟨F, hk, hB, hT, hS⟩ := h
  obtain ⟨g1, cap1, la, lm, lc, e1, e2, e3, e4, e5, e6, e7, e8, e9⟩ := side_push hS hB (by omega) (nodup_addKey (nodup_keysOf QS) t) hk i
  refine ⟨g1, cap1, la, lm, lc, e1, get_lt hk, e2, e3, e4, e5, by rw [e6]; exact memOf_len QS t, e7, e8, fun ob w1 g cap p1 p2 p3 => ?_⟩
  obtain ⟨F', hB', hS', hoth⟩ := e9 ob w1 g cap p1 p2 p3
  refine ⟨F', hk, hB', Side.congr hT (hoth _ (by omega) (by unfold mtag; omega)) (hoth _ (by omega) (by unfold mtag; omega)) (hoth _ (by omega) (by unfold mtag; omega)) (hoth _ (by omega) (by unfold mtag; omega)) (fun j => hoth _ (by unfold mtag; omega) (by unfold mtag; omega)), by rw [memOf_snoc]; exact hS'⟩

/-- The deals are added. -/
def GathTD (W1 w : World) (bp : Nat → Nat) (Dn : Nat → Int) (QT : List (ByteArray × Nat)) (QS : List ((ByteArray × ByteArray) × Nat)) (a0 a1 a2 a3 b0 b1 b2 b3 : Value) (t : ByteArray) (k i : Nat) : Prop :=
  k < (keysOf (QT ++ [(t, i)])).length ∧ Gath W1 w bp Dn (QT ++ [(t, i)]) QS a0 a1 a2 a3 b0 b1 b2 b3
def GathSD (W1 w : World) (bp : Nat → Nat) (Dn : Nat → Int) (QT : List (ByteArray × Nat)) (QS : List ((ByteArray × ByteArray) × Nat)) (a0 a1 a2 a3 b0 b1 b2 b3 : Value) (t : ByteArray × ByteArray) (k i : Nat) : Prop :=
  k < (keysOf (QS ++ [(t, i)])).length ∧ Gath W1 w bp Dn QT (QS ++ [(t, i)]) a0 a1 a2 a3 b0 b1 b2 b3

theorem GathTP.deal {t : ByteArray} {k i : Nat} (h : GathTP W1 w bp Dn QT QS a0 a1 a2 a3 b0 b1 b2 b3 t k i) :
    ∃ g2 cap2, a2 = .slice (some ⟨g2, 0, none⟩) (addKey (keysOf QT) t).length cap2 ∧ k < (addKey (keysOf QT) t).length ∧ w.cell? ⟨g2, k, none⟩ = some (.int .i64 (dlOf Dn QT t)) ∧ w.frozen? ⟨g2, k, none⟩ = false ∧ W1.heap.size + 2 ≤ g2 ∧
      GathTD W1 (w.setCell ⟨g2, k, none⟩ (.int .i64 (wrap64 (dlOf Dn QT t + Dn i)))) bp Dn QT QS a0 a1 a2 a3 b0 b1 b2 b3 t k i := by
  obtain ⟨F, hk, hB, hT, hS⟩ := h
  obtain ⟨g2, cap2, e1, e2, e3, e4, F', hB', hT', hoth⟩ := side_deal hT hB (by omega) (nodup_addKey (nodup_keysOf QT) t) hk (wrap64 (dlOf Dn QT t + Dn i))
  refine ⟨g2, cap2, e1, get_lt hk, e2, e3, e4, by rw [keysOf_snoc]; exact get_lt hk, F', by rw [keysOf_snoc]; exact hB', by rw [keysOf_snoc, dlOf_snoc]; exact hT', Side.congr hS (hoth _ (by omega)) (hoth _ (by omega)) (hoth _ (by omega)) (hoth _ (by omega)) (fun j => hoth _ (by unfold mtag; omega))⟩
theorem GathSP.deal {t : ByteArray × ByteArray} {k i : Nat} (h : GathSP W1 w bp Dn QT QS a0 a1 a2 a3 b0 b1 b2 b3 t k i) :
    ∃ g2 cap2, b2 = .slice (some ⟨g2, 0, none⟩) (addKey (keysOf QS) t).length cap2 ∧ k < (addKey (keysOf QS) t).length ∧ w.cell? ⟨g2, k, none⟩ = some (.int .i64 (dlOf Dn QS t)) ∧ w.frozen? ⟨g2, k, none⟩ = false ∧ W1.heap.size + 2 ≤ g2 ∧
      GathSD W1 (w.setCell ⟨g2, k, none⟩ (.int .i64 (wrap64 (dlOf Dn QS t + Dn i)))) bp Dn QT QS a0 a1 a2 a3 b0 b1 b2 b3 t k i := by
  obtain ⟨F, hk, hB, hT, hS⟩ := h
  obtain ⟨g2, cap2, e1, e2, e3, e4, F', hB', hS', hoth⟩ := side_deal hS hB (by omega) (nodup_addKey (nodup_keysOf QS) t) hk (wrap64 (dlOf Dn QS t + Dn i))
  refine ⟨g2, cap2, e1, get_lt hk, e2, e3, e4, by rw [keysOf_snoc]; exact get_lt hk, F', by rw [keysOf_snoc]; exact hB', Side.congr hT (hoth _ (by omega)) (hoth _ (by omega)) (hoth _ (by omega)) (hoth _ (by omega)) (fun j => hoth _ (by unfold mtag; omega)), by rw [keysOf_snoc, dlOf_snoc]; exact hS'⟩

theorem GathTD.void {t : ByteArray} {k i : Nat} (h : GathTD W1 w bp Dn QT QS a0 a1 a2 a3 b0 b1 b2 b3 t k i) :
    ∃ g3 cap3 z, a3 = .slice (some ⟨g3, 0, none⟩) (keysOf (QT ++ [(t, i)])).length cap3 ∧ k < (keysOf (QT ++ [(t, i)])).length ∧ w.cell? ⟨g3, k, none⟩ = some (.int .i64 z) ∧ w.frozen? ⟨g3, k, none⟩ = false ∧ W1.heap.size + 2 ≤ g3 ∧
      ∀ z', Gath W1 (w.setCell ⟨g3, k, none⟩ (.int .i64 z')) bp Dn (QT ++ [(t, i)]) QS a0 a1 a2 a3 b0 b1 b2 b3 := by
  obtain ⟨hk, F, hB, hT, hS⟩ := h
  obtain ⟨g3, cap3, z, e1, e2, e3, e4, e5⟩ := side_void hT hB (by omega) hk
  refine ⟨g3, cap3, z, e1, hk, e2, e3, e4, fun z' => ?_⟩
  obtain ⟨F', hB', hT', hoth⟩ := e5 z'
  exact ⟨F', hB', hT', Side.congr hS (hoth _ (by omega)) (hoth _ (by omega)) (hoth _ (by omega)) (hoth _ (by omega)) (fun j => hoth _ (by unfold mtag; omega))⟩
theorem GathSD.void {t : ByteArray × ByteArray} {k i : Nat} (h : GathSD W1 w bp Dn QT QS a0 a1 a2 a3 b0 b1 b2 b3 t k i) :
    ∃ g3 cap3 z, b3 = .slice (some ⟨g3, 0, none⟩) (keysOf (QS ++ [(t, i)])).length cap3 ∧ k < (keysOf (QS ++ [(t, i)])).length ∧ w.cell? ⟨g3, k, none⟩ = some (.int .i64 z) ∧ w.frozen? ⟨g3, k, none⟩ = false ∧ W1.heap.size + 2 ≤ g3 ∧
      ∀ z', Gath W1 (w.setCell ⟨g3, k, none⟩ (.int .i64 z')) bp Dn QT (QS ++ [(t, i)]) a0 a1 a2 a3 b0 b1 b2 b3 := by
  obtain ⟨hk, F, hB, hT, hS⟩ := h
  obtain ⟨g3, cap3, z, e1, e2, e3, e4, e5⟩ := side_void hS hB (by omega) hk
  refine ⟨g3, cap3, z, e1, hk, e2, e3, e4, fun z' => ?_⟩
  obtain ⟨F', hB', hS', hoth⟩ := e5 z'
  exact ⟨F', hB', Side.congr hT (hoth _ (by omega)) (hoth _ (by omega)) (hoth _ (by omega)) (hoth _ (by omega)) (fun j => hoth _ (by unfold mtag; omega)), hS'⟩
end

end Go.Proofs.Qxb6600940a
