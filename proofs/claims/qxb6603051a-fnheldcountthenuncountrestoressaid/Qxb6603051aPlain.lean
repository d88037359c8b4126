/-
  DERIVED. count in plain words, and the law: counting by d and then by -d gives back what was.
-/
import Derived.Test.Qxb6603051aHeld2
namespace Go.Proofs.Qxb6603051a
open Go.RowKit

def addRep (d : Int) (R : ByteArray → Int) (x : ByteArray) : ByteArray → Int := gupd R x (wrap64 (R x + d))
def addAll (d : Int) (R : ByteArray → Int) (S : List ByteArray) : ByteArray → Int := S.foldl (addRep d) R
theorem addAll_nil (d : Int) (R : ByteArray → Int) : addAll d R [] = R := rfl
theorem addAll_snoc (d : Int) (R : ByteArray → Int) (S : List ByteArray) (x : ByteArray) : addAll d R (S ++ [x]) = addRep d (addAll d R S) x := by
  unfold addAll; rw [List.foldl_append]; rfl

/-- The other nodes of a shard. -/
def others (S : List ByteArray) (l : ByteArray) : List ByteArray := S.filter (fun x => !decide (x = l))
def folUpd (F : ByteArray → ByteArray → Int) (l : ByteArray) (g : ByteArray → Int) : ByteArray → ByteArray → Int := fun i => if i = l then g else F i

structure Abs where
  R : ByteArray → Int
  L : ByteArray → Int
  F : ByteArray → ByteArray → Int

def onePl (d : Int) (s : Abs) (p : ByteArray × List ByteArray) : Abs :=
  if p.1 = ⟨#[]⟩ then ⟨addAll d s.R p.2, s.L, s.F⟩ else ⟨addAll d s.R p.2, addRep d s.L p.1, folUpd s.F p.1 (addAll d (s.F p.1) (others p.2 p.1))⟩
def allPl (d : Int) (s : Abs) (ps : List (ByteArray × List ByteArray)) : Abs := ps.foldl (onePl d) s
theorem allPl_snoc (d : Int) (s : Abs) (ps : List (ByteArray × List ByteArray)) (p : ByteArray × List ByteArray) : allPl d s (ps ++ [p]) = onePl d (allPl d s ps) p := by
  unfold allPl; rw [List.foldl_append]; rfl

def cnt (S : List ByteArray) (x : ByteArray) : Int := (S.filter (fun y => decide (y = x))).length
theorem cnt_nil (x : ByteArray) : cnt [] x = 0 := rfl
theorem cnt_snoc (S : List ByteArray) (y x : ByteArray) : cnt (S ++ [y]) x = cnt S x + if x = y then 1 else 0 := by
  unfold cnt
  rw [List.filter_append]
  by_cases e : x = y
  · subst e; simp
  · simp [e, Ne.symm e]

def Ranged (R : ByteArray → Int) : Prop := ∀ x, wrap64 (R x) = R x
theorem wrap_twice (a : Int) : wrap64 (wrap64 a) = wrap64 a := by unfold wrap64; omega
theorem wrap_add (a b : Int) : wrap64 (wrap64 a + b) = wrap64 (a + b) := by unfold wrap64; omega

theorem snoc_induction {α : Type} {p : List α → Prop} (h0 : p []) (h1 : ∀ l a, p l → p (l ++ [a])) (l : List α) : p l := by
  have : ∀ r : List α, p r.reverse := by
    intro r
    induction r with
    | nil => exact h0
    | cons a r ih => rw [List.reverse_cons]; exact h1 _ _ ih
  rw [← List.reverse_reverse l]; exact this _

theorem addAll_at (d : Int) (R : ByteArray → Int) (hR : Ranged R) (S : List ByteArray) : ∀ x, addAll d R S x = wrap64 (R x + d * cnt S x) := by
  refine snoc_induction (p := fun S => ∀ x, addAll d R S x = wrap64 (R x + d * cnt S x)) (fun x => ?_) (fun S y ih x => ?_) S
  · rw [addAll_nil, cnt_nil, Int.mul_zero, Int.add_zero, hR x]
  · rw [addAll_snoc, cnt_snoc]
    unfold addRep
    by_cases e : x = y
    · subst e
      rw [gupd_same, ih x, wrap_add, if_pos rfl, Int.mul_add, Int.mul_one, Int.add_assoc]
    · rw [gupd_other _ _ e, ih x, if_neg e, Int.add_zero]
theorem addAll_ranged (d : Int) {R : ByteArray → Int} (hR : Ranged R) (S : List ByteArray) : Ranged (addAll d R S) := fun x => by
  rw [addAll_at d R hR S x, wrap_twice]
theorem addRep_at (d : Int) (R : ByteArray → Int) (l x : ByteArray) (hR : Ranged R) : addRep d R l x = wrap64 (R x + d * if x = l then 1 else 0) := by
  unfold addRep
  by_cases e : x = l
  · subst e; rw [gupd_same, if_pos rfl, Int.mul_one]
  · rw [gupd_other _ _ e, if_neg e, Int.mul_zero, Int.add_zero, hR x]

/-- How often a list of shards names x as a node, as a leader, as a follower of i. -/
def cR (ps : List (ByteArray × List ByteArray)) (x : ByteArray) : Int := (ps.map (fun p => cnt p.2 x)).sum
def cL (ps : List (ByteArray × List ByteArray)) (x : ByteArray) : Int := (ps.map (fun p => if p.1 = ⟨#[]⟩ then 0 else if x = p.1 then 1 else 0)).sum
def cF (ps : List (ByteArray × List ByteArray)) (i x : ByteArray) : Int := (ps.map (fun p => if p.1 = ⟨#[]⟩ then 0 else if i = p.1 then cnt (others p.2 p.1) x else 0)).sum

structure Abs.Ok (s : Abs) : Prop where
  R : Ranged s.R
  L : Ranged s.L
  F : ∀ i, Ranged (s.F i)

theorem sum_snoc (f : ByteArray × List ByteArray → Int) (ps : List (ByteArray × List ByteArray)) (p : ByteArray × List ByteArray) : ((ps ++ [p]).map f).sum = (ps.map f).sum + f p := by
  rw [List.map_append, List.sum_append]; simp

theorem allPl_at (d : Int) (s : Abs) (hs : s.Ok) (ps : List (ByteArray × List ByteArray)) :
    (∀ x, (allPl d s ps).R x = wrap64 (s.R x + d * cR ps x)) ∧ (∀ x, (allPl d s ps).L x = wrap64 (s.L x + d * cL ps x)) ∧ ∀ i x, (allPl d s ps).F i x = wrap64 (s.F i x + d * cF ps i x) := by
  refine snoc_induction (p := fun ps => (∀ x, (allPl d s ps).R x = wrap64 (s.R x + d * cR ps x)) ∧ (∀ x, (allPl d s ps).L x = wrap64 (s.L x + d * cL ps x)) ∧ ∀ i x, (allPl d s ps).F i x = wrap64 (s.F i x + d * cF ps i x)) ?_ ?_ ps
  · refine ⟨fun x => ?_, fun x => ?_, fun i x => ?_⟩
    · show s.R x = wrap64 (s.R x + d * 0); rw [Int.mul_zero, Int.add_zero, hs.R x]
    · show s.L x = wrap64 (s.L x + d * 0); rw [Int.mul_zero, Int.add_zero, hs.L x]
    · show s.F i x = wrap64 (s.F i x + d * 0); rw [Int.mul_zero, Int.add_zero, hs.F i x]
  · rintro ps p ⟨h1, h2, h3⟩
    have r1 : Ranged (allPl d s ps).R := fun x => by rw [h1 x, wrap_twice]
    have r2 : Ranged (allPl d s ps).L := fun x => by rw [h2 x, wrap_twice]
    have r3 : ∀ i, Ranged ((allPl d s ps).F i) := fun i x => by rw [h3 i x, wrap_twice]
    rw [allPl_snoc]
    unfold onePl
    refine ⟨fun x => ?_, fun x => ?_, fun i x => ?_⟩
    · have e : cR (ps ++ [p]) x = cR ps x + cnt p.2 x := sum_snoc _ ps p
      have : (if p.1 = ⟨#[]⟩ then (⟨addAll d (allPl d s ps).R p.2, (allPl d s ps).L, (allPl d s ps).F⟩ : Abs) else ⟨addAll d (allPl d s ps).R p.2, addRep d (allPl d s ps).L p.1, folUpd (allPl d s ps).F p.1 (addAll d ((allPl d s ps).F p.1) (others p.2 p.1))⟩).R = addAll d (allPl d s ps).R p.2 := by split <;> rfl
      rw [this, addAll_at d _ r1, h1 x, wrap_add, e, Int.mul_add, Int.add_assoc]
    · have e : cL (ps ++ [p]) x = cL ps x + (if p.1 = ⟨#[]⟩ then 0 else if x = p.1 then 1 else 0) := sum_snoc _ ps p
      rw [e]
      by_cases h0 : p.1 = ⟨#[]⟩
      · rw [if_pos h0, if_pos h0, Int.add_zero]; exact h2 x
      · rw [if_neg h0, if_neg h0]
        show addRep d (allPl d s ps).L p.1 x = _
        rw [addRep_at d _ _ _ r2, h2 x, wrap_add, Int.mul_add, Int.add_assoc]
    · have e : cF (ps ++ [p]) i x = cF ps i x + (if p.1 = ⟨#[]⟩ then 0 else if i = p.1 then cnt (others p.2 p.1) x else 0) := sum_snoc _ ps p
      rw [e]
      by_cases h0 : p.1 = ⟨#[]⟩
      · rw [if_pos h0, if_pos h0, Int.add_zero]; exact h3 i x
      · rw [if_neg h0, if_neg h0]
        show folUpd (allPl d s ps).F p.1 (addAll d ((allPl d s ps).F p.1) (others p.2 p.1)) i x = _
        unfold folUpd
        by_cases e1 : i = p.1
        · subst e1
          rw [if_pos rfl, if_pos rfl, addAll_at d _ (r3 _), h3, wrap_add, Int.mul_add, Int.add_assoc]
        · rw [if_neg e1, if_neg e1, Int.add_zero]; exact h3 i x

theorem allPl_ok (d : Int) {s : Abs} (hs : s.Ok) (ps : List (ByteArray × List ByteArray)) : (allPl d s ps).Ok := by
  obtain ⟨h1, h2, h3⟩ := allPl_at d s hs ps
  exact ⟨fun x => by rw [h1 x, wrap_twice], fun x => by rw [h2 x, wrap_twice], fun i x => by rw [h3 i x, wrap_twice]⟩

theorem back (a d m : Int) (ha : wrap64 a = a) : wrap64 (wrap64 (a + d * m) + wrap64 (-d) * m) = a := by
  have e : ∃ k, wrap64 (-d) = -d + 18446744073709551616 * k := ⟨(wrap64 (-d) + d) / 18446744073709551616, by unfold wrap64; omega⟩
  obtain ⟨k, hk⟩ := e
  have e2 : ∃ j, wrap64 (a + d * m) = a + d * m + 18446744073709551616 * j := ⟨(wrap64 (a + d * m) - (a + d * m)) / 18446744073709551616, by unfold wrap64; omega⟩
  obtain ⟨j, hj⟩ := e2
  have e3 : wrap64 (a + d * m) + wrap64 (-d) * m = a + 18446744073709551616 * (j + k * m) := by
    rw [hj, hk, Int.add_mul, Int.neg_mul, Int.mul_add, Int.mul_assoc]
    omega
  rw [e3, ← ha]
  generalize j + k * m = t
  unfold wrap64
  omega

/-- The law. -/
theorem back_all (d : Int) (s : Abs) (hs : s.Ok) (ps : List (ByteArray × List ByteArray)) : allPl (wrap64 (-d)) (allPl d s ps) ps = s := by
  obtain ⟨h1, h2, h3⟩ := allPl_at d s hs ps
  obtain ⟨k1, k2, k3⟩ := allPl_at (wrap64 (-d)) _ (allPl_ok d hs ps) ps
  have e1 : (allPl (wrap64 (-d)) (allPl d s ps) ps).R = s.R := funext fun x => by rw [k1 x, h1 x]; exact back _ _ _ (hs.R x)
  have e2 : (allPl (wrap64 (-d)) (allPl d s ps) ps).L = s.L := funext fun x => by rw [k2 x, h2 x]; exact back _ _ _ (hs.L x)
  have e3 : (allPl (wrap64 (-d)) (allPl d s ps) ps).F = s.F := funext fun i => funext fun x => by rw [k3 i x, h3 i x]; exact back _ _ _ (hs.F i x)
  revert e1 e2 e3
  generalize allPl (wrap64 (-d)) (allPl d s ps) ps = t
  cases s
  cases t
  rintro rfl rfl rfl
  rfl

end Go.Proofs.Qxb6603051a
