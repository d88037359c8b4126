/-
  A map as a function from key values to element values, whatever the elements are. No Go text of the program here.
-/
import Derived.WalkKit
import Derived.WalkSpells
import Derived.WalkLawsBesides
import Derived.Maps.OwnSet
namespace Go.Proofs.Qxb6600940a
open Go.RowKit Go.Maps

/-- Every element reads as itself. -/
def asSelf (v : Value) : Option (DataW Value × List MemPlace) := some (.held v, [])

/-- Block b is a map of c entries, at most n stores old: the element at key x is f x. -/
def MapIs (P : Program) (k : TypeId) (w : World) (b n c : Nat) (f : Value → Option Value) : Prop :=
  ∃ D : DataW Value, w.ownsMap P k asSelf b n D ∧ Maps.size D = c ∧ ∀ x l, keyOf P k x = some l → Maps.has D l = (f x).isSome ∧ ∀ v, f x = some v → D.atKey l .nil = .held v

section
variable {P : Program} {k : TypeId} {w w' : World} {b n c : Nat} {f : Value → Option Value}

theorem mapIs_made (w : World) (P : Program) (k : TypeId) (hf : ∀ x, f x = none) : MapIs P k (w.alloc (.map #[] 0)) w.heap.size 0 0 f :=
  ⟨_, World.ownsMap_made w P k asSelf, rfl, fun x l _ => by rw [hf x]; exact ⟨rfl, fun v h => by cases h⟩⟩

theorem MapIs.lt (h : MapIs P k w b n c f) : b < w.heap.size := by obtain ⟨D, h1, _⟩ := h; exact h1.lt

theorem MapIs.of_block (h : MapIs P k w b n c f) (e : w'.heap[b]? = w.heap[b]?) : MapIs P k w' b n c f := by
  obtain ⟨D, ⟨es, clock, hb, r⟩, h2⟩ := h
  exact ⟨D, ⟨es, clock, e.trans hb, r⟩, h2⟩

theorem MapIs.below {B : Nat} (h : MapIs P k w b n c f) (hb : Below B w w') (hlt : b < B) : MapIs P k w' b n c f := h.of_block (hb.block b hlt)

theorem MapIs.congr {g : Value → Option Value} (h : MapIs P k w b n c f) (e : ∀ x l, keyOf P k x = some l → f x = g x) : MapIs P k w b n c g := by
  obtain ⟨D, h1, h2, h3⟩ := h
  exact ⟨D, h1, h2, fun x l hx => by rw [← e x l hx]; exact h3 x l hx⟩

theorem MapIs.le (h : MapIs P k w b n c f) : c ≤ n := by
  obtain ⟨D, h1, h2, _⟩ := h
  rw [← h2]; exact h1.size_le

/-- 'm[x]'. -/
theorem MapIs.look (h : MapIs P k w b n c f) (K : Keyed P k) {t e : TypeId} (ht : P.underlying t = some (.map k e)) {z : Value} (hz : ∀ w, (zeroValue e).run P w = .ok z w) {x : Value} {l : Lit} (hx : keyOf P k x = some l) :
    (Instr.lookup t (.map (some b)) x false).run P w = .ok ((f x).getD z) w := by
  obtain ⟨D, h1, _, h3⟩ := h
  obtain ⟨v, ps, hrun, hv⟩ := h1.lookup K ht (hz w) (zd := .held z) (zp := []) rfl hx
  obtain ⟨hh, hat⟩ := h3 x l hx
  rw [hrun]
  cases hf : f x with
  | none =>
    rw [hf] at hh
    rw [Maps.atKey_of_not_has hh] at hv
    simp only [asSelf, Option.some.injEq, Prod.mk.injEq, DataW.held.injEq] at hv
    rw [hv.1]; rfl
  | some y =>
    have hy := hat y hf
    have hy2 : D.atKey l (.held z) = .held y := by
      obtain ⟨es, rfl⟩ := h1.isMap
      rw [hf] at hh
      simp only [DataW.atKey] at hy ⊢
      simp only [Maps.has_eq] at hh
      cases hfi : es.find? (fun p => p.1.sameKey l) with
      | none =>
        rw [List.find?_eq_none] at hfi
        have : es.any (fun p => p.1.sameKey l) = true := hh
        obtain ⟨p, hp, hp2⟩ := List.any_eq_true.1 this
        exact absurd hp2 (hfi p hp)
      | some p => rw [hfi] at hy; simpa using hy
    rw [hy2] at hv
    simp only [asSelf, Option.some.injEq, Prod.mk.injEq, DataW.held.injEq] at hv
    rw [hv.1]; rfl

/-- 'v, ok := m[x]'. -/
theorem MapIs.look_ok (h : MapIs P k w b n c f) (K : Keyed P k) {t e : TypeId} (ht : P.underlying t = some (.map k e)) {z : Value} (hz : ∀ w, (zeroValue e).run P w = .ok z w) {x : Value} {l : Lit} (hx : keyOf P k x = some l) :
    (Instr.lookup t (.map (some b)) x true).run P w = .ok (.tuple #[(f x).getD z, .bool (f x).isSome]) w := by
  have hl := h.look K ht hz hx
  obtain ⟨D, h1, _, h3⟩ := h
  obtain ⟨v, ps, hrun, hv⟩ := h1.look_ok K ht (hz w) (zd := .held z) (zp := []) rfl hx
  obtain ⟨v2, ps2, hrun2, hv2⟩ := h1.lookup K ht (hz w) (zd := .held z) (zp := []) rfl hx
  have e1 : v = v2 := by
    simp only [asSelf, Option.some.injEq, Prod.mk.injEq] at hv hv2
    have := hv.1.trans hv2.1.symm
    injection this
  rw [hrun2] at hl
  have e2 : v2 = (f x).getD z := by injection hl
  rw [hrun, (h3 x l hx).1, e1, e2]

/-- 'len(m)'. -/
theorem MapIs.len (h : MapIs P k w b n c f) {t e : TypeId} (ht : P.underlying t = some (.map k e)) (ty : TypeId) : (Builtin.len_ #[t] ty #[.map (some b)]).run P w = .ok (.int .i64 (c : Int)) w := by
  obtain ⟨D, h1, h2, _⟩ := h
  rw [h1.len ht ty, h2]

/-- 'm[x] = v'. -/
theorem MapIs.put (h : MapIs P k w b n c f) (K : Keyed P k) {t e : TypeId} (ht : P.underlying t = some (.map k e)) (hn : n < maxLen) {x v : Value} {l : Lit} (hx : keyOf P k x = some l) {g : Value → Option Value} (hg1 : g x = some v) (hg2 : ∀ y, y ≠ x → g y = f y) :
    ∃ w', (Instr.mapUpdate t (.map (some b)) x v).run P w = .ok () w' ∧ MapIs P k w' b (n + 1) (if (f x).isSome then c else c + 1) g ∧ w.mapTurned w' b := by
  obtain ⟨D, h1, h2, h3⟩ := h
  obtain ⟨w', hrun, ho, hm⟩ := h1.store K ht hn hx (val := v) (d := .held v) (ps := []) rfl
  refine ⟨w', hrun, ⟨_, ho, ?_, fun y ly hy => ?_⟩, hm⟩
  · rw [Maps.size_put (h1.tidy K), (h3 x l hx).1, h2]
  · by_cases e : y = x
    · subst e
      obtain rfl := Option.some.inj (hy.symm.trans hx)
      rw [hg1, Maps.has_put_same h1.isMap (K.key hx), Maps.atKey_put_same h1.isMap (K.key hx)]
      exact ⟨rfl, fun v' hv' => by cases hv'; rfl⟩
    · have hne : ly ≠ l := fun el => e (K.inj hy (el ▸ hx))
      rw [hg2 y e, Maps.has_put_other hne, Maps.atKey_put_other hne]
      exact h3 y ly hy

/-- 'delete(m, x)'. -/
theorem MapIs.drop (h : MapIs P k w b n c f) (K : Keyed P k) {t e : TypeId} (ht : P.underlying t = some (.map k e)) {x : Value} {l : Lit} (hx : keyOf P k x = some l) (ty : TypeId) {g : Value → Option Value} (hg1 : g x = none) (hg2 : ∀ y, y ≠ x → g y = f y) :
    ∃ w', (Builtin.delete_ #[t, k] ty #[.map (some b), x]).run P w = .ok (.tuple #[]) w' ∧ MapIs P k w' b n (if (f x).isSome then c - 1 else c) g ∧ w.mapTurned w' b := by
  obtain ⟨D, h1, h2, h3⟩ := h
  obtain ⟨w', hrun, ho, hm⟩ := h1.drop K ht hx ty
  refine ⟨w', hrun, ⟨_, ho, ?_, fun y ly hy => ?_⟩, hm⟩
  · have := Maps.size_del (h1.tidy K) (k := l)
    rw [(h3 x l hx).1, h2] at this
    split <;> rename_i hs <;> simp [hs] at this <;> omega
  · by_cases e : y = x
    · subst e
      obtain rfl := Option.some.inj (hy.symm.trans hx)
      rw [hg1, Maps.has_del_same]
      exact ⟨rfl, fun v' hv' => by cases hv'⟩
    · have hne : ly ≠ l := fun el => e (K.inj hy (el ▸ hx))
      rw [hg2 y e, Maps.has_del_other hne, Maps.atKey_del_other hne]
      exact h3 y ly hy

end
end Go.Proofs.Qxb6600940a
