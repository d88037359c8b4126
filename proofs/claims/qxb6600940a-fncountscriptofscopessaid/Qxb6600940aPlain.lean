/-
  The plain law: counting each reached bundle once. Functions on lists and numbers; no Go here.
-/
import Derived.Test.Qxb6600940aWalkC
namespace Go.Proofs.Qxb6600940a
open Go.RowKit

/-! ### The order on strings -/
theorem cmp_lt_iff : ∀ a b : List UInt8, Lib.compareBytes a b < 0 ↔ Op.bytesLess a b = true
  | [], [] => by simp [Lib.compareBytes, Op.bytesLess]
  | [], _ :: _ => by simp [Lib.compareBytes, Op.bytesLess]
  | _ :: _, [] => by simp [Lib.compareBytes, Op.bytesLess]
  | a :: xa, b :: xb => by
    have ih := cmp_lt_iff xa xb
    unfold Lib.compareBytes Op.bytesLess
    by_cases h1 : a < b
    · simp [h1]
    · by_cases h2 : b < a
      · have : ¬ a = b := fun e => UInt8.lt_irrefl a (e ▸ h2)
        simp [h1, h2, this]
      · have : a = b := UInt8.le_antisymm (UInt8.not_lt.1 h2) (UInt8.not_lt.1 h1)
        subst this
        simp [ih]

theorem cmp_eq_iff : ∀ a b : List UInt8, Lib.compareBytes a b = 0 ↔ a = b
  | [], [] => by simp [Lib.compareBytes]
  | [], _ :: _ => by simp [Lib.compareBytes]
  | _ :: _, [] => by simp [Lib.compareBytes]
  | a :: xa, b :: xb => by
    have ih := cmp_eq_iff xa xb
    unfold Lib.compareBytes
    by_cases h1 : a < b
    · have : ¬ a = b := fun e => UInt8.lt_irrefl a (by rw [← e] at h1; exact h1)
      simp [h1, this]
    · by_cases h2 : b < a
      · have : ¬ a = b := fun e => UInt8.lt_irrefl a (e ▸ h2)
        simp [h1, h2, this]
      · have : a = b := UInt8.le_antisymm (UInt8.not_lt.1 h2) (UInt8.not_lt.1 h1)
        subst this
        simp [ih]

theorem cmp_gt_iff : ∀ a b : List UInt8, 0 < Lib.compareBytes a b ↔ Op.bytesLess b a = true
  | [], [] => by simp [Lib.compareBytes, Op.bytesLess]
  | [], _ :: _ => by simp [Lib.compareBytes, Op.bytesLess]
  | _ :: _, [] => by simp [Lib.compareBytes, Op.bytesLess]
  | a :: xa, b :: xb => by
    have ih := cmp_gt_iff xa xb
    unfold Lib.compareBytes Op.bytesLess
    by_cases h1 : a < b
    · have h3 : ¬ b < a := fun h => UInt8.lt_irrefl a (UInt8.lt_trans h1 h)
      have : ¬ b = a := fun e => UInt8.lt_irrefl a (by rw [e] at h1; exact h1)
      simp [h1, h3, this]
    · by_cases h2 : b < a
      · simp [h1, h2]
      · have : a = b := UInt8.le_antisymm (UInt8.not_lt.1 h2) (UInt8.not_lt.1 h1)
        subst this
        simp [ih]

theorem bytesLess_trans : ∀ a b c : List UInt8, Op.bytesLess a b = true → Op.bytesLess b c = true → Op.bytesLess a c = true
  | _, [], _, h, _ => by cases ‹List UInt8› <;> simp [Op.bytesLess] at h
  | _, _ :: _, [], _, h => by simp [Op.bytesLess] at h
  | [], _ :: _, _ :: _, _, _ => by simp [Op.bytesLess]
  | a :: xa, b :: xb, c :: cs, h1, h2 => by
    have ih := bytesLess_trans xa xb cs
    simp only [Op.bytesLess, Bool.or_eq_true, decide_eq_true_eq, Bool.and_eq_true, beq_iff_eq] at h1 h2 ⊢
    rcases h1 with h1 | ⟨e1, h1⟩
    · rcases h2 with h2 | ⟨e2, h2⟩
      · exact Or.inl (UInt8.lt_trans h1 h2)
      · exact Or.inl (e2 ▸ h1)
    · rcases h2 with h2 | ⟨e2, h2⟩
      · exact Or.inl (e1 ▸ h2)
      · exact Or.inr ⟨e1.trans e2, ih h1 h2⟩

theorem bytesLess_irrefl : ∀ a : List UInt8, Op.bytesLess a a = false
  | [] => rfl
  | a :: xa => by simp [Op.bytesLess, bytesLess_irrefl xa]

theorem slt_trans {a b c : ByteArray} (h1 : slt a b = true) (h2 : slt b c = true) : slt a c = true := bytesLess_trans _ _ _ h1 h2
theorem slt_irrefl (a : ByteArray) : slt a a = false := bytesLess_irrefl _

/-- strings.Compare. -/
def cmpS (a b : ByteArray) : Int := Lib.compareBytes a.data.toList b.data.toList
theorem cmpS_lt (a b : ByteArray) : cmpS a b < 0 ↔ slt a b = true := by unfold cmpS slt; rw [toList_data, toList_data]; exact cmp_lt_iff _ _
theorem cmpS_gt (a b : ByteArray) : 0 < cmpS a b ↔ slt b a = true := by unfold cmpS slt; rw [toList_data, toList_data]; exact cmp_gt_iff _ _
theorem cmpS_eq (a b : ByteArray) : cmpS a b = 0 ↔ a = b := by
  unfold cmpS
  rw [cmp_eq_iff]
  exact ⟨fun e => ByteArray.ext (Array.toList_inj.1 e), fun e => by rw [e]⟩

/-- Strictly ascending, by pairs. -/
theorem Asc.pairwise : ∀ {S : List ByteArray}, Asc S → S.Pairwise (fun a b => slt a b = true)
  | [], _ => List.Pairwise.nil
  | [_], _ => by simp
  | a :: b :: l, h => by
    have h' : Asc (b :: l) := fun k hk => by
      have := h (k + 1) (by simp at hk ⊢; omega)
      simpa using this
    have ih := Asc.pairwise h'
    have hab : slt a b = true := by simpa using h 0 (by simp)
    refine List.pairwise_cons.2 ⟨fun c hc => ?_, ih⟩
    rcases List.mem_cons.1 hc with rfl | hc
    · exact hab
    · exact slt_trans hab ((List.pairwise_cons.1 ih).1 c hc)

/-! ### The merge that 'listsIn' walks -/
def mg : Nat → List ByteArray → List ByteArray → Nat
  | 0, _, _ => 0
  | f + 1, a :: xa, b :: xb => if cmpS a b < 0 then mg f xa (b :: xb) else if 0 < cmpS a b then mg f (a :: xa) xb else 1 + mg f xa xb
  | _ + 1, _, _ => 0

theorem mg_nil_left (f : Nat) (b : List ByteArray) : mg f [] b = 0 := by cases f <;> cases b <;> rfl
theorem mg_nil_right (f : Nat) (a : List ByteArray) : mg f a [] = 0 := by cases f <;> cases a <;> rfl

theorem filter_none {S tops : List ByteArray} (h : ∀ s ∈ S, s ∉ tops) : S.filter (fun t => inB t tops) = [] := by
  rw [List.filter_eq_nil_iff]
  intro s hs
  rw [inB_iff]
  exact h s hs

theorem mg_eq : ∀ (f : Nat) (a b : List ByteArray), a.length + b.length ≤ f → a.Pairwise (fun a b => slt a b = true) → b.Pairwise (fun a b => slt a b = true) → mg f a b = (b.filter (fun t => inB t a)).length
  | 0, a, b, h, _, _ => by
    have : b = [] := List.eq_nil_of_length_eq_zero (by omega)
    subst this; rfl
  | f + 1, [], b, _, _, _ => by
    rw [mg_nil_left, filter_none (fun _ _ h => by cases h)]; rfl
  | f + 1, a :: xa, [], _, _, _ => rfl
  | f + 1, a :: xa, b :: xb, h, ha, hb => by
    obtain ⟨ha1, ha2⟩ := List.pairwise_cons.1 ha
    obtain ⟨hb1, hb2⟩ := List.pairwise_cons.1 hb
    simp only [List.length_cons] at h
    unfold mg
    by_cases h1 : cmpS a b < 0
    · rw [if_pos h1, mg_eq f xa (b :: xb) (by simp; omega) ha2 hb]
      have hab := (cmpS_lt a b).1 h1
      congr 1
      refine List.filter_congr fun t ht => ?_
      have hne : t ≠ a := fun e => by
        have : slt a t = true := by
          rcases List.mem_cons.1 ht with e' | e'
          · rw [e']; exact hab
          · exact slt_trans hab (hb1 t e')
        rw [e, slt_irrefl] at this; cases this
      rw [Bool.eq_iff_iff, inB_iff, inB_iff]
      simp [hne]
    · rw [if_neg h1]
      by_cases h2 : 0 < cmpS a b
      · rw [if_pos h2, mg_eq f (a :: xa) xb (by simp; omega) ha hb2]
        have hba := (cmpS_gt a b).1 h2
        have hnb : inB b (a :: xa) = false := by
          rw [inB_false]
          intro hm
          rcases List.mem_cons.1 hm with e | e
          · rw [e, slt_irrefl] at hba; cases hba
          · have := slt_trans hba (ha1 b e)
            rw [slt_irrefl] at this; cases this
        rw [List.filter_cons, hnb]; simp
      · rw [if_neg h2]
        have hab : a = b := (cmpS_eq a b).1 (by omega)
        subst hab
        rw [mg_eq f xa xb (by omega) ha2 hb2, List.filter_cons]
        have : inB a (a :: xa) = true := inB_iff.2 (by simp)
        rw [this]
        simp only [if_true, List.length_cons]
        rw [Nat.add_comm]
        congr 2
        refine List.filter_congr fun t ht => ?_
        have hne : t ≠ a := fun e => by
          have := hb1 t ht
          rw [e, slt_irrefl] at this; cases this
        rw [Bool.eq_iff_iff, inB_iff, inB_iff]
        simp [hne]

/-! ### Sums over the bundles -/
def sumR (f : Nat → Int) : Nat → Int
  | 0 => 0
  | n + 1 => sumR f n + f n

theorem sumR_congr {f g : Nat → Int} : ∀ n, (∀ i, i < n → f i = g i) → sumR f n = sumR g n
  | 0, _ => rfl
  | n + 1, h => by simp only [sumR]; rw [sumR_congr n (fun i hi => h i (by omega)), h n (by omega)]

theorem sumR_add (f g : Nat → Int) : ∀ n, sumR (fun i => f i + g i) n = sumR f n + sumR g n
  | 0 => rfl
  | n + 1 => by simp only [sumR]; rw [sumR_add f g n]; omega

theorem sumR_zero : ∀ n, sumR (fun _ => 0) n = 0
  | 0 => rfl
  | n + 1 => by simp only [sumR, sumR_zero n]; rfl

/-- The members of a list, by what tells them. -/
def members (p : Nat → Bool) (n : Nat) : List Nat := (List.range n).filter p

/-- The deals of a list's members. -/
def dealsOf (D : Nat → Int) (l : List Nat) : Int := (l.map D).sum

theorem dealsOf_append (D : Nat → Int) (a b : List Nat) : dealsOf D (a ++ b) = dealsOf D a + dealsOf D b := by
  unfold dealsOf
  rw [List.map_append, List.sum_append]

theorem dealsOf_members (D : Nat → Int) (p : Nat → Bool) : ∀ n, dealsOf D (members p n) = sumR (fun i => if p i then D i else 0) n
  | 0 => rfl
  | n + 1 => by
    have ih := dealsOf_members D p n
    unfold members at ih ⊢
    rw [List.range_succ, List.filter_append, dealsOf_append, ih]
    simp only [sumR]
    cases h : p n <;> simp [h, dealsOf]

/-- In how many of the lists i is. -/
def cntIn (L : List (Nat → Bool)) (i : Nat) : Int := (L.filter (fun p => p i)).length

theorem cntIn_nil (i : Nat) : cntIn [] i = 0 := rfl
theorem cntIn_append (a b : List (Nat → Bool)) (i : Nat) : cntIn (a ++ b) i = cntIn a i + cntIn b i := by
  unfold cntIn
  rw [List.filter_append, List.length_append]
  omega

/-- All deals of all lists. -/
def total (D : Nat → Int) (n : Nat) (L : List (Nat → Bool)) : Int := (L.map (fun p => dealsOf D (members p n))).sum

theorem total_eq (D : Nat → Int) (n : Nat) : ∀ L, total D n L = sumR (fun i => D i * cntIn L i) n
  | [] => by
    rw [sumR_congr n (g := fun _ => 0) (fun i _ => by rw [cntIn_nil]; omega), sumR_zero]; rfl
  | p :: L => by
    have ih := total_eq D n L
    have e : total D n (p :: L) = dealsOf D (members p n) + total D n L := by simp [total]
    rw [e, ih, dealsOf_members, ← sumR_add]
    refine sumR_congr n fun i _ => ?_
    have : cntIn (p :: L) i = (if p i then 1 else 0) + cntIn L i := by
      unfold cntIn
      rw [List.filter_cons]
      split <;> simp <;> omega
    rw [this, Int.mul_add]
    cases p i <;> simp

/-- What is taken off for the marked ones. -/
def taken (D c : Nat → Int) (M : Nat → Bool) (n : Nat) : Int := sumR (fun i => if M i then D i * (c i - 1) else 0) n

def setM (M : Nat → Bool) (i : Nat) : Nat → Bool := fun j => if j = i then true else M j

theorem sumR_at {f g : Nat → Int} {k : Nat} (d : Int) : ∀ n, k < n → (∀ i, i ≠ k → f i = g i) → f k = g k + d → sumR f n = sumR g n + d
  | 0, h, _, _ => absurd h (Nat.not_lt_zero _)
  | n + 1, h, hne, hk => by
    simp only [sumR]
    by_cases e : k = n
    · subst e
      rw [sumR_congr k (fun i hi => hne i (by omega)), hk]; omega
    · rw [sumR_at d n (by omega) hne hk, hne n (fun e' => e e'.symm)]; omega

theorem taken_set (D c : Nat → Int) (M : Nat → Bool) (n i : Nat) (hi : i < n) (hM : M i = false) : taken D c (setM M i) n = taken D c M n + D i * (c i - 1) := by
  unfold taken
  refine sumR_at _ n hi (fun j hj => ?_) ?_
  · simp [setM, hj]
  · simp [setM, hM]

/-- EACH REACHED BUNDLE ONCE: what is left when the marked ones' surplus is taken off. -/
theorem once (D : Nat → Int) (n : Nat) (L : List (Nat → Bool)) (M : Nat → Bool) (h1 : ∀ i, i < n → M i = true → 1 ≤ cntIn L i) (h2 : ∀ i, i < n → M i = false → D i = 0 ∨ cntIn L i ≤ 1) :
    total D n L - taken D (cntIn L) M n = sumR (fun i => if 1 ≤ cntIn L i then D i else 0) n := by
  rw [total_eq]
  unfold taken
  have hneg : ∀ (f g : Nat → Int) (m : Nat), sumR f m - sumR g m = sumR (fun i => f i - g i) m := by
    intro f g m
    induction m with
    | zero => rfl
    | succ m ih => simp only [sumR]; rw [← ih]; omega
  rw [hneg]
  refine sumR_congr n fun i hi => ?_
  have hc0 : 0 ≤ cntIn L i := by unfold cntIn; omega
  cases hM : M i with
  | true =>
    have := h1 i hi hM
    simp only [if_true, this]
    rw [Int.mul_sub]; omega
  | false =>
    simp only [Bool.false_eq_true, if_false]
    rcases h2 i hi hM with h | h
    · rw [h]; simp
    · by_cases hc : 1 ≤ cntIn L i
      · have : cntIn L i = 1 := by omega
        rw [this]; simp
      · have : cntIn L i = 0 := by omega
        rw [this]; simp

end Go.Proofs.Qxb6600940a
