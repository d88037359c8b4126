/-
  DERIVED. Build: an append to a row of the family, in one step of the walk; the start; sizes.
-/
import Derived.Test.Qxb6600940aBuild1
import Derived.Test.Qxb6600940aCount0
namespace Go.Proofs.Qxb6600940a
open Go.RowKit Go.Maps

theorem Try.info45 : (Try.prog.info? 45).map (fun i => (i.zero, i.size, i.bytes)) = some (some (.pointer none), 1, 8) := by kernel_rfl
theorem Try.info58 : (Try.prog.info? 58).map (fun i => (i.zero, i.size, i.bytes)) = some (some (.slice none 0 0), 1, 24) := by kernel_rfl
theorem Try.info66 : (Try.prog.info? 66).map (fun i => (i.zero, i.size, i.bytes)) = some (some (.agg #[.string ⟨#[]⟩, .string ⟨#[]⟩]), 2, 32) := by kernel_rfl
theorem zero3 : ∀ w, (zeroValue 3).run Try.prog w = .ok (.int .i64 0) w := fun w => by
  obtain ⟨i, hi, hz, _, _⟩ := info_parts Try.info3
  simp [zeroValue, typeInfo, hi, hz]

section
variable {κ : Type} [DecidableEq κ]
def isIn (K : List κ) (t : κ) : Bool := decide (t ∈ K)
def placeOf (K : List κ) (t : κ) : Int := if t ∈ K then (idx K t : Int) else 0
theorem isIn_true {K : List κ} {t : κ} (h : t ∈ K) : isIn K t = true := decide_eq_true h
theorem isIn_false {K : List κ} {t : κ} (h : t ∉ K) : isIn K t = false := decide_eq_false h
theorem placeOf_mem {K : List κ} {t : κ} (h : t ∈ K) : placeOf K t = (idx K t : Int) := if_pos h
theorem IdxMap.look2 {w : World} {kt : TypeId} {b : Nat} {enc : κ → Value} {K : List κ} (h : IdxMap w kt b enc K) (hk : Keyed Try.prog kt) {mt et : TypeId} (ht : Try.prog.underlying mt = some (.map kt et)) (hz : ∀ w, (zeroValue et).run Try.prog w = .ok (.int .i64 0) w) (t : κ) (hl : ∃ l, keyOf Try.prog kt (enc t) = some l) :
    (Instr.lookup mt (.map (some b)) (enc t) true).run Try.prog w = .ok (.tuple #[.int .i64 (placeOf K t), .bool (isIn K t)]) w := h.look hk ht hz t hl
end

/-- What Build leaves. -/
def Built (w : World) (T : List (List ByteArray)) (C X : List ByteArray) (D : List Int) (e : Ending) (w' : World) : Prop :=
  ∃ I : Ix, e = .returned (.pointer (some ⟨I.fb, 0, none⟩)) ∧ I.base = w.heap.size ∧ I.T = T ∧ I.C = C ∧ I.X = X ∧ I.D = D ∧ I.Stat w' ∧ I.Dyn w' w' 0 (fun _ => 0) nilV 0 [] ∧ Below w.heap.size w w'

/-- What Build reads at bundle k. -/
def InAt (w : World) (ta ca xa da : Option Addr) (T : List (List ByteArray)) (C X : List ByteArray) (D : List Int) (tv : Nat → Value) (k : Nat) : Prop :=
  (∃ b o a c, ta = some ⟨b, o, none⟩ ∧ w.cell? ⟨b, o + k, none⟩ = some (tv k) ∧ StrsC w (tv k) (T.getD k []) ∧ tv k = .slice a (T.getD k []).length c) ∧
  (∃ b o, ca = some ⟨b, o, none⟩ ∧ w.cell? ⟨b, o + k, none⟩ = some (.string (C.getD k ⟨#[]⟩)) ∧ (C.getD k ⟨#[]⟩).size ≤ 9223372036854775807) ∧
  (∃ b o, xa = some ⟨b, o, none⟩ ∧ w.cell? ⟨b, o + k, none⟩ = some (.string (X.getD k ⟨#[]⟩)) ∧ (X.getD k ⟨#[]⟩).size ≤ 9223372036854775807) ∧
  (∃ b o, da = some ⟨b, o, none⟩ ∧ w.cell? ⟨b, o + k, none⟩ = some (.int .i64 (D.getD k 0)))

theorem in_at {w : World} {v1 v2 v3 v4 : Value} {T : List (List ByteArray)} {C X : List ByteArray} {D : List Int} (hT : STabC w v1 T) (hC : Strs w v2 C) (hX : Strs w v3 X) (hD : Ints w v4 D) (e1 : C.length = T.length) (e2 : X.length = T.length) (e3 : D.length = T.length) :
    ∃ ta ca xa da c1 c2 c3 c4 tv, v1 = .slice ta T.length c1 ∧ v2 = .slice ca T.length c2 ∧ v3 = .slice xa T.length c3 ∧ v4 = .slice da T.length c4 ∧ ∀ k, k < T.length → InAt w ta ca xa da T C X D tv k := by
  obtain ⟨ta, c1, rfl, _, h1⟩ := hT
  obtain ⟨ca, c2, rfl, _, _, h2⟩ := hC
  obtain ⟨xa, c3, rfl, _, _, h3⟩ := hX
  obtain ⟨da, c4, rfl, _, _, h4⟩ := hD
  have hch : ∀ k, ∃ u, k < T.length → ∃ b o, ta = some ⟨b, o, none⟩ ∧ w.cell? ⟨b, o + k, none⟩ = some u ∧ StrsC w u (T.getD k []) := fun k => by
    by_cases hk : k < T.length
    · obtain ⟨b, o, u, r⟩ := h1 k hk; exact ⟨u, fun _ => ⟨b, o, r⟩⟩
    · exact ⟨nilV, fun h => absurd h hk⟩
  refine ⟨ta, ca, xa, da, c1, c2, c3, c4, fun k => (hch k).choose, rfl, by rw [e1], by rw [e2], by rw [e3], fun k hk => ⟨?_, ?_, ?_, ?_⟩⟩
  · obtain ⟨b, o, r1, r2, r3⟩ := (hch k).choose_spec hk
    obtain ⟨a, c, r4⟩ := r3.1.slice
    exact ⟨b, o, a, c, r1, r2, r3, r4⟩
  · obtain ⟨hs, b, o, r1, r2⟩ := h2 k (by omega); exact ⟨b, o, r1, r2, hs⟩
  · obtain ⟨hs, b, o, r1, r2⟩ := h3 k (by omega); exact ⟨b, o, r1, r2, hs⟩
  · obtain ⟨b, o, r1, r2⟩ := h4 k (by omega); exact ⟨b, o, r1, r2⟩

theorem cell_as {w : World} {o : Obj} {p a : Addr} {u v : Value} (h : w.cell? a = some v) (hne : ¬ a.block = p.block) : ((w.alloc o).setCell p u).drew.cell? a = some v :=
  (World.cell?_of_block (w := w.alloc o) (w' := ((w.alloc o).setCell p u).drew) (a := a) (Below.heap_setCell _ _ _ _ hne)).trans (Lib.cell?_alloc_some _ h)

theorem push_cells {w w0 w1 : World} {o : Obj} {row : Option Nat} {g r : Nat} {v : Value} (hw : w0.heap = (w.alloc o).heap) (hg : w0.grownBy w1 row) (hc : w.cell? ⟨g, r, none⟩ = some v) (hf : w.frozen? ⟨g, r, none⟩ = false) (hne : some g ≠ row) :
    w1.cell? ⟨g, r, none⟩ = some v ∧ w1.frozen? ⟨g, r, none⟩ = false := by
  have hlt : g < w.heap.size := World.block_lt_of_cell? _ _ hc
  have hb : w1.heap[g]? = w.heap[g]? := by
    rw [hg.block g (by rw [hw]; show g < (w.heap.push o).size; rw [Array.size_push]; omega) hne, hw]
    exact Go.Deep.blk_alloc_lt w o g hlt
  exact ⟨(World.cell?_of_block (a := ⟨g, r, none⟩) hb).trans hc, (World.frozen?_of_block (a := ⟨g, r, none⟩) hb).trans hf⟩

theorem i64wrap (n : Int) : wrap64 n = IntKind.i64.wrap n := by rw [IntKind.wrap_i64]; unfold wrap64; omega

/-- 'append' to the row tag, in a plain region. -/
theorem wpList_push {W1 w : World} {F : Nat → Row} {KT : List ByteArray} {KS : List (ByteArray × ByteArray)} (hB : BS W1 w F KT KS) (tag : Nat) {v : Value} {n : Nat} {xs : List Value} (e : TypeId) (i : TypeInfo) (z : Value) (size bytes : Nat) (hF : F tag = ⟨e, size, v, n, xs⟩) (cs : Array Value)
    (hi : Try.prog.info? e = some i) (hz : i.zero = some z) (hsize : i.size = size) (hby : i.bytes = bytes) (hzs : z.cells.size = size) (hsz : 0 < size) (hcs : cs.toList.length = size) (h1 : ∀ u ∈ cs.toList, u.oneCell' = true) (hn : n ≤ 8192) (hb32 : bytes ≤ 64)
    {ops : Array Oper} {rest : List Oper} {o : Oper} {a : Act} {Q : Exit → Act → World → Prop} (hgd : o.guard = none) (s x : Operand) (t : TypeId)
    (ho : o.op = .call { callee := .builtin .append, args := #[s, x], argTypes := #[t, t] }) (ht : Try.prog.underlying t = some (.slice e)) (hs : a.eval s = v) (hx : a.eval x = .slice (some ⟨w.heap.size, 0, none⟩) 1 1)
    (h : ∀ g cap w', BS W1 w' (upd F tag ⟨e, size, .slice (some ⟨g, 0, none⟩) (n + 1) cap, n + 1, xs ++ cs.toList⟩) KT KS → wpList Try.prog ops Q rest (a.put o.dst (.slice (some ⟨g, 0, none⟩) (n + 1) cap)) w') : wpList Try.prog ops Q (o :: rest) a (w.alloc (.cells cs e)) := by
  refine wpList_append_lies _ hgd s x t ho (W1.heap.size + 2) e i z size bytes ht hi hz hsize hby hzs hsz v n xs hs (hB.ownA tag hF _) ⟨w.heap.size, 0, none⟩ 1 1 cs.toList hx (by rw [hcs, Nat.one_mul]) (World.news_of_block (heap_alloc_new w _)) h1 (by omega) (by unfold maxLen; omega) ?_ ?_ (w.heap.size + 1) (by show (w.heap.push _).size = _; rw [Array.size_push]) ?_
  · have : (n + 1) * bytes ≤ 8193 * 64 := Nat.mul_le_mul (by omega) hb32
    omega
  · have := hB.size
    show _ ≤ (w.heap.push _).size; rw [Array.size_push]; omega
  · intro g cap w' hown hgrow hat _
    exact h g cap w' (hB.pushed tag hF _ hown hgrow hat)

def tagE (t : Nat) : TypeId := if t = 0 then 9 else if t = 1 ∨ t = 5 then 58 else if t = 2 ∨ t = 3 ∨ t = 6 ∨ t = 7 then 3 else if t = 4 then 66 else 45
def tagS (t : Nat) : Nat := if t = 4 then 2 else 1

theorem gath_start (W1 : World) (bp : Nat → Nat) (Dn : Nat → Int) : Gath W1 ((W1.alloc (.map #[] 0)).alloc (.map #[] 0)) bp Dn [] [] nilV nilV nilV nilV nilV nilV nilV nilV := by
  have hs1 : (W1.alloc (.map #[] 0)).heap.size = W1.heap.size + 1 := by show (W1.heap.push _).size = _; rw [Array.size_push]
  have hs2 : ((W1.alloc (.map #[] 0)).alloc (.map #[] 0)).heap.size = W1.heap.size + 2 := by show (Array.push _ _).size = _; rw [Array.size_push, hs1]
  refine ⟨fun t => nilRow (tagE t) (tagS t), ⟨?_, by rw [hs2]; exact Nat.le_refl _, ?_, ?_, Fam.empty _ _ _ _⟩, ?_, ?_⟩
  · exact ((Below.refl _ _).alloc (Nat.le_refl _) _).alloc (by rw [hs1]; omega) _
  · exact (idxMap_made W1 9 encT).of_block (Go.Deep.blk_alloc_lt _ _ _ (by rw [hs1]; omega))
  · have := idxMap_made (W1.alloc (.map #[] 0)) 66 encS
    rw [hs1] at this
    exact this
  · exact side_empty _ _ _ _ _ _ _ rfl rfl rfl rfl (fun k => by
      have e1 : tagE (mtag 0 k) = 45 := by unfold tagE mtag; rw [if_neg (by omega), if_neg (by omega), if_neg (by omega), if_neg (by omega)]
      have e2 : tagS (mtag 0 k) = 1 := by unfold tagS mtag; rw [if_neg (by omega)]
      simp only [e1, e2])
  · exact side_empty _ _ _ _ _ _ _ rfl rfl rfl rfl (fun k => by
      have e1 : tagE (mtag 4 k) = 45 := by unfold tagE mtag; rw [if_neg (by omega), if_neg (by omega), if_neg (by omega), if_neg (by omega)]
      have e2 : tagS (mtag 4 k) = 1 := by unfold tagS mtag; rw [if_neg (by omega)]
      simp only [e1, e2])

/-- The pairs of the first k bundles and of the first j tops of the next. -/
def partQ (T : List (List ByteArray)) (k j : Nat) : List (ByteArray × Nat) := topQ T k ++ ((T.getD k []).take j).map (fun t => (t, k))
theorem partQ_zero (T : List (List ByteArray)) (k : Nat) : partQ T k 0 = topQ T k := by simp [partQ]
theorem partQ_all (T : List (List ByteArray)) (k : Nat) : partQ T k (T.getD k []).length = topQ T (k + 1) := by
  unfold partQ; rw [List.take_length, topQ_succ]
theorem partQ_succ (T : List (List ByteArray)) (k j : Nat) (hj : j < (T.getD k []).length) : partQ T k (j + 1) = partQ T k j ++ [((T.getD k []).getD j ByteArray.empty, k)] := by
  have e : (T.getD k []).getD j ByteArray.empty = (T.getD k [])[j] := by rw [List.getD_eq_getElem?_getD, List.getElem?_eq_getElem hj]; rfl
  unfold partQ
  rw [List.take_succ_eq_append_getElem hj, List.map_append, e, List.append_assoc]
  rfl
theorem topQ_mono (T : List (List ByteArray)) (k : Nat) : ∀ m, (topQ T k).length ≤ (topQ T (k + m)).length
  | 0 => Nat.le_refl _
  | m + 1 => by
    have := topQ_mono T k m
    rw [← Nat.add_assoc, topQ_succ, List.length_append]
    omega
theorem partQ_len (T : List (List ByteArray)) {k n : Nat} (j : Nat) (hk : k < n) : (partQ T k j).length ≤ (topQ T n).length := by
  have h1 : (partQ T k j).length ≤ (topQ T (k + 1)).length := by
    rw [topQ_succ]; unfold partQ
    rw [List.length_append, List.length_append, List.length_map, List.length_map, List.length_take]
    omega
  have h2 := topQ_mono T (k + 1) (n - (k + 1))
  rw [show k + 1 + (n - (k + 1)) = n by omega] at h2
  omega

theorem Gath.low {W1 w : World} {bp : Nat → Nat} {Dn : Nat → Int} {QT : List (ByteArray × Nat)} {QS : List ((ByteArray × ByteArray) × Nat)} {a0 a1 a2 a3 b0 b1 b2 b3 : Value} (h : Gath W1 w bp Dn QT QS a0 a1 a2 a3 b0 b1 b2 b3) : Below W1.heap.size W1 w := by
  obtain ⟨F, hB, _⟩ := h; exact hB.low
theorem GathT.low {W1 w : World} {bp : Nat → Nat} {Dn : Nat → Int} {QT : List (ByteArray × Nat)} {QS : List ((ByteArray × ByteArray) × Nat)} {a0 a1 a2 a3 b0 b1 b2 b3 : Value} {t : ByteArray} {k : Nat} (h : GathT W1 w bp Dn QT QS a0 a1 a2 a3 b0 b1 b2 b3 t k) : Below W1.heap.size W1 w := by
  obtain ⟨F, _, hB, _⟩ := h; exact hB.low
theorem GathS.low {W1 w : World} {bp : Nat → Nat} {Dn : Nat → Int} {QT : List (ByteArray × Nat)} {QS : List ((ByteArray × ByteArray) × Nat)} {a0 a1 a2 a3 b0 b1 b2 b3 : Value} {t : ByteArray × ByteArray} {k : Nat} (h : GathS W1 w bp Dn QT QS a0 a1 a2 a3 b0 b1 b2 b3 t k) : Below W1.heap.size W1 w := by
  obtain ⟨F, _, hB, _⟩ := h; exact hB.low
theorem GathTP.low {W1 w : World} {bp : Nat → Nat} {Dn : Nat → Int} {QT : List (ByteArray × Nat)} {QS : List ((ByteArray × ByteArray) × Nat)} {a0 a1 a2 a3 b0 b1 b2 b3 : Value} {t : ByteArray} {k i : Nat} (h : GathTP W1 w bp Dn QT QS a0 a1 a2 a3 b0 b1 b2 b3 t k i) : Below W1.heap.size W1 w := by
  obtain ⟨F, _, hB, _⟩ := h; exact hB.low
theorem GathSP.low {W1 w : World} {bp : Nat → Nat} {Dn : Nat → Int} {QT : List (ByteArray × Nat)} {QS : List ((ByteArray × ByteArray) × Nat)} {a0 a1 a2 a3 b0 b1 b2 b3 : Value} {t : ByteArray × ByteArray} {k i : Nat} (h : GathSP W1 w bp Dn QT QS a0 a1 a2 a3 b0 b1 b2 b3 t k i) : Below W1.heap.size W1 w := by
  obtain ⟨F, _, hB, _⟩ := h; exact hB.low
theorem GathTP.later {W1 w w' : World} {bp : Nat → Nat} {Dn : Nat → Int} {QT : List (ByteArray × Nat)} {QS : List ((ByteArray × ByteArray) × Nat)} {a0 a1 a2 a3 b0 b1 b2 b3 : Value} {t : ByteArray} {k i : Nat} (h : GathTP W1 w bp Dn QT QS a0 a1 a2 a3 b0 b1 b2 b3 t k i) (hb : Below w.heap.size w w') : GathTP W1 w' bp Dn QT QS a0 a1 a2 a3 b0 b1 b2 b3 t k i := by
  obtain ⟨F, h0, h1, h2, h3⟩ := h; exact ⟨F, h0, h1.later hb, h2, h3⟩
theorem GathSP.later {W1 w w' : World} {bp : Nat → Nat} {Dn : Nat → Int} {QT : List (ByteArray × Nat)} {QS : List ((ByteArray × ByteArray) × Nat)} {a0 a1 a2 a3 b0 b1 b2 b3 : Value} {t : ByteArray × ByteArray} {k i : Nat} (h : GathSP W1 w bp Dn QT QS a0 a1 a2 a3 b0 b1 b2 b3 t k i) (hb : Below w.heap.size w w') : GathSP W1 w' bp Dn QT QS a0 a1 a2 a3 b0 b1 b2 b3 t k i := by
  obtain ⟨F, h0, h1, h2, h3⟩ := h; exact ⟨F, h0, h1.later hb, h2, h3⟩

end Go.Proofs.Qxb6600940a
