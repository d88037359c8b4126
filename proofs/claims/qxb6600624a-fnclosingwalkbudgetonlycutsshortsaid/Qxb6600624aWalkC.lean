import Derived.Test.Qxb6600624aRows
import Derived.Test.Qxb6600624aMem
import Derived.Test.Qxb6600624aPlain
import Derived.BigQuiet
namespace Go.Proofs.Qxb6600624a
open Go.RowKit

/-- The text of an arc's kind. -/
def kindStr (k : Int) : ByteArray := if k = 1 then ⟨#[114, 119]⟩ else if k = 2 then ⟨#[118, 105, 97]⟩ else ⟨#[119, 119]⟩

set_option maxHeartbeats 400000 in
theorem kind_any (k : Int) (w : World) : Calls Try.prog 23 #[.int .i64 k] w fun e w' => e = .returned (.string (kindStr k)) ∧ w' = w := by
  by_cases h1 : k = 1
  · subst h1
    go_enter Try.func23, Try.ntmps23
    go_wp2
    go_ret
    exact ⟨rfl, rfl⟩
  · by_cases h2 : k = 2
    · subst h2
      go_enter Try.func23, Try.ntmps23
      go_wp2
      go_ret
      exact ⟨rfl, rfl⟩
    · have e1 : (k == 1) = false := by simpa using h1
      have e2 : (k == 2) = false := by simpa using h2
      have H : Hid (kindStr k = ⟨#[119, 119]⟩) := by unfold kindStr; rw [if_neg h1, if_neg h2]; rfl
      go_enter Try.func23, Try.ntmps23
      go_wp2
      go_ret
      exact ⟨by rw [H.out]; rfl, rfl⟩

/-- What 'next' answers. -/
def nextInt (st t : Nat) (kind : Int) : Int := match Plain.nextSt st t kind with | none => -1 | some ns => ns

set_option maxHeartbeats 800000 in
theorem next_any (st t : Nat) (kind : Int) (z : Value) (w : World) (hst : st ≤ 1048576) (ht : t ≤ 1048576) :
    Calls Try.prog 29 #[.int .i64 st, .agg #[.int .i64 t, .string (kindStr kind), z]] w fun e w' => e = .returned (.int .i64 (nextInt st t kind)) ∧ Below w.heap.size w w' := by
  have hm : ((st : Int) % 2) = ((st % 2 : Nat) : Int) := by omega
  by_cases h2 : kind = 2
  · subst h2
    have H : Hid (nextInt st t 2 = 2 * (t : Int) + (st : Int) % 2) := by show _ = _; simp [nextInt, Plain.nextSt]
    have hk : kindStr 2 = ⟨#[118, 105, 97]⟩ := rfl
    rw [hk]
    clear hm hk
    go_enter Try.func29, Try.ntmps29
    go_wp2
    go_ret
    exact ⟨by rw [H.out]; rfl, (Below.refl _ _).alloc (Nat.le_refl _) _⟩
  by_cases h1 : kind = 1
  · subst h1
    have hk : kindStr 1 = ⟨#[114, 119]⟩ := rfl
    rw [hk]
    clear hm hk
    by_cases hs : st % 2 = 1
    · have H : Hid (nextInt st t 1 = -1) := by show _ = _; simp [nextInt, Plain.nextSt, hs]
      have hs' : ((st : Int) % 2 == 1) = true := by simp; omega
      clear hs
      go_enter Try.func29, Try.ntmps29
      go_wp2
      go_ret
      exact ⟨by rw [H.out]; rfl, (Below.refl _ _).alloc (Nat.le_refl _) _⟩
    · have H : Hid (nextInt st t 1 = 2 * (t : Int) + 1) := by show _ = _; simp [nextInt, Plain.nextSt, hs]
      have hs' : ((st : Int) % 2 == 1) = false := by simp; omega
      clear hs
      go_enter Try.func29, Try.ntmps29
      go_wp2
      go_ret
      exact ⟨by rw [H.out]; rfl, (Below.refl _ _).alloc (Nat.le_refl _) _⟩
  · have H : Hid (nextInt st t kind = 2 * (t : Int)) := by show _ = _; simp [nextInt, Plain.nextSt, h1, h2]
    have hk : kindStr kind = ⟨#[119, 119]⟩ := by unfold kindStr; rw [if_neg h1, if_neg h2]
    rw [hk]
    clear hm hk h1 h2
    go_enter Try.func29, Try.ntmps29
    go_wp2
    go_ret
    exact ⟨by rw [H.out]; rfl, (Below.refl _ _).alloc (Nat.le_refl _) _⟩

set_option maxHeartbeats 400000 in
theorem spend_none (n : Int) (w : World) : Calls Try.prog 28 #[.pointer none, .int .i64 n] w fun e w' => e = .returned (.bool true) ∧ w' = w := by
  go_enter Try.func28, Try.ntmps28
  go_wp2
  go_ret
  exact ⟨rfl, rfl⟩

set_option maxHeartbeats 400000 in
theorem spend_short (bb : Nat) (left n : Int) (w : World) (hc : w.cell? ⟨bb, 0, none⟩ = some (.int .i64 left)) (hf : w.frozen? ⟨bb, 0, none⟩ = false) (h : left < n) :
    Calls Try.prog 28 #[.pointer (some ⟨bb, 0, none⟩), .int .i64 n] w fun e w' => e = .returned (.bool false) ∧ w' = w.setCell ⟨bb, 0, none⟩ (.int .i64 0) := by
  go_enter Try.func28, Try.ntmps28
  go_wp2
  go_ret
  exact ⟨rfl, rfl⟩

set_option maxHeartbeats 400000 in
theorem spend_pays (bb : Nat) (left n : Int) (w : World) (hc : w.cell? ⟨bb, 0, none⟩ = some (.int .i64 left)) (hf : w.frozen? ⟨bb, 0, none⟩ = false) (h : n ≤ left) (h0 : 0 ≤ n) (hl : left ≤ 9223372036854775807) :
    Calls Try.prog 28 #[.pointer (some ⟨bb, 0, none⟩), .int .i64 n] w fun e w' => e = .returned (.bool true) ∧ w' = w.setCell ⟨bb, 0, none⟩ (.int .i64 (left - n)) := by
  go_enter Try.func28, Try.ntmps28
  go_wp2
  go_ret
  exact ⟨rfl, rfl⟩

/-- a and b are the same walk. -/
def SameW (na nb : Bool) (xs ys : List Int) : Prop := na = nb ∧ xs = ys

set_option maxHeartbeats 400000 in
theorem sameWalk_yes (a b : Option Addr) (xs : List Int) (c1 c2 : Nat) (w : World) (hab : a.isNone = b.isNone) (hl : xs.length ≤ 9223372036854775807)
    (h1 : ∀ k, k < xs.length → ∃ bl o, a = some ⟨bl, o, none⟩ ∧ w.cell? ⟨bl, o + k, none⟩ = some (.int .i64 (xs.getD k 0)))
    (h2 : ∀ k, k < xs.length → ∃ bl o, b = some ⟨bl, o, none⟩ ∧ w.cell? ⟨bl, o + k, none⟩ = some (.int .i64 (xs.getD k 0))) :
    Calls Try.prog 18 #[.slice a xs.length c1, .slice b xs.length c2] w fun e w' => e = .returned (.bool true) ∧ Drew w w' := by
  have q1 : ∀ (w : World) (a : Option Addr) (n c : Nat), (binOp .eql 27 (.slice a n c) (.slice none 0 0)).run Try.prog w = .ok (.bool a.isNone) w := fun w a n c => Lib.run_eql_slice_nil w _ _ _ _ _ _ _ Try.underlying27
  have q2 : ((xs.length : Int) != (xs.length : Int)) = false := by simp
  obtain ⟨na, hna⟩ : ∃ na, a.isNone = na := ⟨_, rfl⟩
  have hnb : b.isNone = na := by rw [← hab, hna]
  have q3 : ∀ w : World, (binOp .neq 4 (.bool na) (.bool na)).run Try.prog w = .ok (.bool false) w := by
    intro w
    cases na <;> simp [go_sem]
  go_enter Try.func18, Try.ntmps18
  go_wp2
  go_loopw [5] (fun i wr => ∃ k : Nat, k ≤ xs.length ∧ i = .int .i64 k ∧ Hid (Drew w wr)) (fun i _ => xs.length - (intOf i).toNat)
  case atStart => exact ⟨0, Nat.zero_le _, rfl, ⟨0, rfl⟩⟩
  case round =>
    obtain ⟨k, hk, rfl, hd⟩ := hrel
    obtain ⟨nd, rfl⟩ := hd.out
    clear hd
    by_cases hlt : k < xs.length
    · obtain ⟨b1, o1, rfl, g1⟩ := h1 k hlt
      obtain ⟨b2, o2, rfl, g2⟩ := h2 k hlt
      generalize hx : xs.getD k 0 = x at *
      have e1 : (x != x) = false := by simp
      clear h1 h2 hx q1 q3 hna hnb hab
      go_wp2
      go_quiet (fail)
      go_wp2
      go_roundw
      case rel => exact ⟨k + 1, by omega, by go_num, ⟨_, rfl⟩⟩
      case measure => simp [intOf]; omega
    · go_wp2
      go_ret
      exact ⟨rfl, _, rfl⟩

end Go.Proofs.Qxb6600624a
